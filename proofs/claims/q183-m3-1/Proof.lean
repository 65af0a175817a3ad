import JvmDerived
import JvmDerived.Pilot.@@N@@Statement
import JvmDerived.Pilot.@@N@@Code
set_option linter.unusedVariables false
set_option linter.unusedSimpArgs false
namespace Jvm.RoadKit
open Sem ClassFile Op Lib Jvm.Stand Jvm.Free Jvm.LawKit
section New
variable {p : Program} {l : Launch} {e : Env} {R : Room} {s : State} {m : MethodId} {args : Array Value} {below : List Frame} {meth : Method} {c : Code} {T : State} {locs : List Loc} {cells slots : Nat}
theorem retI (X : Stand p l e R s m args below meth c T locs cells slots) (hx : p.tables.exec = Jvm.exec) {pc : Nat} {Ls : Array Slot} {z : Int32} {rest : List Value} (hret : meth.sig.returnType = some .int) (hd : decode c.code pc = .ok (.ireturn, 1)) {fs : List Frame}
    (hl : ∀ (f : JFrame) (acts : List Action), f.method = m → f.locked = none → f.entered = [] → (doReturn e (T.setTop f) acts (some (.int z))).1 = T.setFrames fs) : Steps p.tables e below (T.setTop (mkF m pc Ls (.int z :: rest))) (T.setFrames fs) := by
  have hm' : T.vm.method? m = some meth := X.method'
  have hn : narrow .int (.int z) = .int z := rfl
  show Steps p.tables e below (T.setTop { method := m, pc := pc, locals := Ls, stack := _ :: rest, locked := none }) _
  jvm_step X.here [X.here.top, hx, hd, hm', hret, hn]
  first | (intro acts; rw [hl _ acts rfl rfl rfl]) | rw [hl _ _ rfl rfl rfl]
  exact Steps.refl _
end New
end Jvm.RoadKit
/- laws to paste: Road.backV, Road.lenW, Road.chN, Road.eqW, Road.codOf (cut by pick.py; bodies as the Statement names them) -/
namespace Jvm.Pilot.@@N@@
namespace StrChars
open Jvm Sem ClassFile Op Lib Jvm.Stand Jvm.Free.XT Jvm.Free.ALB Jvm.Free.JM Jvm.Free
open Jvm.Lib.Cold (StaticIs)
/-- a char array whose places are chars -/
def Ch (a : Addr) (A : Cell) (U : State) : Prop := Arr .char a A U ∧ Typed .char A
theorem Ch.mv {a : Addr} {A : Cell} {U U' : State} (h : Ch a A U) (hal : U.vm.Alike U'.vm) (hh : U'.heap = U.heap) : Ch a A U' := ⟨h.1.mv hal hh, h.2⟩
theorem Ch.keep {a : Addr} {A : Cell} {U U' : State} (h : Ch a A U) (hal : U.vm.Alike U'.vm) (hk : U'.heap[a]? = some A) : Ch a A U' := ⟨h.1.keep hal hk, h.2⟩
/-- what place i of a char[]'s cell holds -/
def cv (A : Cell) (i : Nat) : Int32 := match A.slots[i]? with | some (.int x) => x | _ => 0
theorem Ch.get {a : Addr} {A : Cell} {U : State} (h : Ch a A U) {i : Nat} (hi : i < A.slots.size) : A.slots[i]? = some (.int (cv A i)) := by
  have e := Array.getElem?_eq_getElem hi
  have f := h.2 i _ e
  unfold cv; rw [e]
  generalize A.slots[i] = v at f
  cases v <;> simp [fits] at f ⊢
/-- the byte that i2b leaves of a char -/
def lo8 (x : Int32) : Int32 := x.toInt8.toInt32
theorem fits_lo8 (y : Int32) : fits .byte (.int (lo8 y)) = true := by
  have h1 := y.toInt8.le_toInt
  have h2 := y.toInt8.toInt_lt
  simp only [lo8, fits, Bool.and_eq_true, decide_eq_true_eq, Int32.le_iff_toInt_le, Int8.toInt_toInt32, show (-128 : Int32).toInt = -128 from by decide, show (127 : Int32).toInt = 127 from by decide]
  omega
/-- A' is A but that each place j of lo .. hi - 1 holds f j -/
def Laid (A A' : Cell) (lo hi : Nat) (f : Nat → Value) : Prop := A'.cls = A.cls ∧ A'.vm = A.vm ∧ A'.slots.size = A.slots.size ∧ ∀ i, A'.slots[i]? = if lo ≤ i ∧ i < hi then some (f i) else A.slots[i]?
theorem Laid.zero (A : Cell) (lo : Nat) (f : Nat → Value) : Laid A A lo (lo + 0) f := ⟨rfl, rfl, rfl, fun i => by rw [if_neg (by omega)]⟩
theorem Laid.step {A Ak : Cell} {lo k : Nat} {f : Nat → Value} {v : Value} (h : Laid A Ak lo k f) (hlo : lo ≤ k) (hk : k < Ak.slots.size) (hv : v = f k) : Laid A (Ak.setSlot k v) lo (k + 1) f := by
  refine ⟨h.1, h.2.1, by simpa [Cell.setSlot] using h.2.2.1, fun i => ?_⟩
  by_cases e : k = i
  · subst e; rw [Cell.slots_setSlot_self v hk, if_pos (by omega), hv]
  · rw [Cell.slots_setSlot_ne v e, h.2.2.2 i]
    by_cases q : lo ≤ i ∧ i < k
    · rw [if_pos q, if_pos (by omega)]
    · rw [if_neg q, if_neg (by omega)]
def U16 : String := "java/lang/StringUTF16"
namespace Cmp5
def yN : MethodName := ⟨"java/lang/StringUTF16", "compress", "([CI[BII)I"⟩
abbrev yB : ByteArray := jdk_52_method_21_code
theorem d0 : decode yB 0 = .ok (.iconst 0, 1) := by decide +kernel
theorem d1 : decode yB 1 = .ok (.istore 5, 2) := by decide +kernel
theorem d3 : decode yB 3 = .ok (.iload 5, 2) := by decide +kernel
theorem d5 : decode yB 5 = .ok (.iload 4, 2) := by decide +kernel
theorem d7 : decode yB 7 = .ok (.if_icmp (.ge) 37, 3) := by decide +kernel
theorem d10 : decode yB 10 = .ok (.aload_n 0, 1) := by decide +kernel
theorem d11 : decode yB 11 = .ok (.iload_n 1, 1) := by decide +kernel
theorem d12 : decode yB 12 = .ok (.caload, 1) := by decide +kernel
theorem d13 : decode yB 13 = .ok (.istore 6, 2) := by decide +kernel
theorem d15 : decode yB 15 = .ok (.iload 6, 2) := by decide +kernel
theorem d17 : decode yB 17 = .ok (.sipush 255, 3) := by decide +kernel
theorem d20 : decode yB 20 = .ok (.if_icmp (.le) 6, 3) := by decide +kernel
theorem d26 : decode yB 26 = .ok (.aload_n 2, 1) := by decide +kernel
theorem d27 : decode yB 27 = .ok (.iload_n 3, 1) := by decide +kernel
theorem d28 : decode yB 28 = .ok (.iload 6, 2) := by decide +kernel
theorem d30 : decode yB 30 = .ok (.i2b, 1) := by decide +kernel
theorem d31 : decode yB 31 = .ok (.bastore, 1) := by decide +kernel
theorem d32 : decode yB 32 = .ok (.iinc 1 1, 3) := by decide +kernel
theorem d35 : decode yB 35 = .ok (.iinc 3 1, 3) := by decide +kernel
theorem d38 : decode yB 38 = .ok (.iinc 5 1, 3) := by decide +kernel
theorem d41 : decode yB 41 = .ok (.goto (-38), 3) := by decide +kernel
theorem d44 : decode yB 44 = .ok (.iload 4, 2) := by decide +kernel
theorem d46 : decode yB 46 = .ok (.ireturn, 1) := by decide +kernel
def site : List Cond := []
def tab : Cond := tabOf yN yB 7 (some .int) site
def P (b : Addr) (A : Cell) (d : Addr) (B : Cell) (o q len : Nat) (args : Array Value) (s : State) : Prop := args = #[.ref b, .int (Int32.ofNat o), .ref d, .int (Int32.ofNat q), .int (Int32.ofNat len)] ∧ Ch b A s ∧ Arr .byte d B s ∧ b ≠ d ∧ o + len ≤ A.slots.size ∧ q + len ≤ B.slots.size ∧ ∀ i, i < len → ¬ 255 < cv A (o + i)
def E (b : Addr) (A : Cell) (d : Addr) (B : Cell) (o q len : Nat) (r : Option Value) (s u : State) : Prop := r = some (.int (Int32.ofNat len)) ∧ ∃ B', Put d B' s u ∧ Laid B B' q (q + len) (fun j => Value.int (lo8 (cv A (o + (j - q)))))
/-- no char of the range above 255: len; the places written hold each char's low byte -/
theorem law (l : Launch) (b : Addr) (A : Cell) (d : Addr) (B : Cell) (o q len : Nat) : Law l yN 5 5 0 0 yB 7 (some .int) site (P b A d B o q len) (E b A d B o q len) (copyLocs d q len) 0 0 := by
  refine Law.of_walk (plainFor_of_name (by decide +kernel)) (by decide +kernel) (by decide +kernel) (by decide) (fun _ _ h => by rw [h.1]; rfl) (fun _ U U' hal hh h => ⟨h.1, h.2.1.mv hal hh, h.2.2.1.mv hal hh, h.2.2.2⟩) (fun r U U' V V' h1 hal h2 h => ⟨h.1, h.2.elim fun B' q => ⟨B', q.1.mv h1 h2, q.2⟩⟩) ?_
  intro p e s m args below meth c s₁ X0 hexec hbytes hml hret hlk hnm hown hh0 W hP
  obtain ⟨rfl, hA, hB, hne, l1, l2, hp⟩ := hP
  have c1 : Steps p.tables e below (s₁.setTop (entryFrame m #[.ref b, .int (Int32.ofNat o), .ref d, .int (Int32.ofNat q), .int (Int32.ofNat len)] 7)) (s₁.setTop (mkF m 0 #[.val (.ref b), .val (.int (Int32.ofNat o)), .val (.ref d), .val (.int (Int32.ofNat q)), .val (.int (Int32.ofNat len)), .unset, .unset] [])) := entry rfl
  have hA0 := hA.1.mv X0.warmed.alike hh0
  have hB0 := hB.mv X0.warmed.alike hh0
  have a31 := hA.1.2.2.2
  have c2 : Steps p.tables e below (s₁.setTop (entryFrame m #[.ref b, .int (Int32.ofNat o), .ref d, .int (Int32.ofNat q), .int (Int32.ofNat len)] 7)) (s₁.setTop (mkF m 3 #[.val (.ref b), .val (.int (Int32.ofNat o)), .val (.ref d), .val (.int (Int32.ofNat q)), .val (.int (Int32.ofNat len)), .val (.int 0), .unset] [])) := c1.trans (by
    refine iconstV X0.here hexec rfl 0 (hb hbytes d0) (by decide) ?_
    refine XS.istore X0.here hexec rfl (hb hbytes d1) rfl rfl ?_
    exact Steps.refl _)
  have loop : ∀ (r i : Nat), i + r = len → ∀ (z : Slot), (z = .unset ∨ ∃ w, z = .val w ∧ w.category = 1) → ∀ (Tl : State) (Bk : Cell), Stand p l e { frames := 0, locals := 0, cells := 0, slots := 0 } s m #[.ref b, .int (Int32.ofNat o), .ref d, .int (Int32.ofNat q), .int (Int32.ofNat len)] below meth c Tl ([] ++ copyLocs d q i) 0 0 → Put d Bk s₁ Tl → Laid B Bk q (q + i) (fun j => Value.int (lo8 (cv A (o + (j - q))))) →
      Steps p.tables e below (s₁.setTop (entryFrame m #[.ref b, .int (Int32.ofNat o), .ref d, .int (Int32.ofNat q), .int (Int32.ofNat len)] 7)) (Tl.setTop (mkF m 3 #[.val (.ref b), .val (.int (Int32.ofNat (o + i))), .val (.ref d), .val (.int (Int32.ofNat (q + i))), .val (.int (Int32.ofNat len)), .val (.int (Int32.ofNat i)), z] [])) → ∃ (T' : State) (B' : Cell) (z' : Slot), Stand p l e { frames := 0, locals := 0, cells := 0, slots := 0 } s m #[.ref b, .int (Int32.ofNat o), .ref d, .int (Int32.ofNat q), .int (Int32.ofNat len)] below meth c T' ([] ++ copyLocs d q len) 0 0 ∧ Put d B' s₁ T' ∧ Laid B B' q (q + len) (fun j => Value.int (lo8 (cv A (o + (j - q))))) ∧
      Steps p.tables e below (s₁.setTop (entryFrame m #[.ref b, .int (Int32.ofNat o), .ref d, .int (Int32.ofNat q), .int (Int32.ofNat len)] 7)) (T'.setTop (mkF m 3 #[.val (.ref b), .val (.int (Int32.ofNat (o + len))), .val (.ref d), .val (.int (Int32.ofNat (q + len))), .val (.int (Int32.ofNat len)), .val (.int (Int32.ofNat len)), z'] [])) := by
    intro r
    induction r with
    | zero =>
      intro i hi z hz Tl Bk Xl pl fl cl
      have hil : i = len := by omega
      rw [hil] at Xl fl cl
      exact ⟨Tl, Bk, z, Xl, pl, fl, cl⟩
    | succ r ih =>
      intro i hi z hz Tl Bk Xl pl fl cl
      have all := X0.warmed.alike.symm.trans Xl.warmed.alike
      have hAl := hA0.keep all (pl.other hne hA0.1)
      have hBk := hB0.like all pl.1 fl.1 fl.2.1 fl.2.2.1
      have hlt : q + i < Bk.slots.size := by rw [fl.2.2.1]; omega
      have c3 : Steps p.tables e below (s₁.setTop (entryFrame m #[.ref b, .int (Int32.ofNat o), .ref d, .int (Int32.ofNat q), .int (Int32.ofNat len)] 7)) (Tl.setTop (mkF m 12 #[.val (.ref b), .val (.int (Int32.ofNat (o + i))), .val (.ref d), .val (.int (Int32.ofNat (q + i))), .val (.int (Int32.ofNat len)), .val (.int (Int32.ofNat i)), z] [.int (Int32.ofNat (o + i)), .ref b])) := cl.trans (by
        refine XS.iload Xl.here hexec rfl (hb hbytes d3) rfl ?_
        refine XS.iload Xl.here hexec rfl (hb hbytes d5) rfl ?_
        refine XS.icmpNo Xl.here hexec rfl (hb hbytes d7) rfl (ii_ge_f (lt32 (by omega) (by omega))) ?_
        refine XS.aloadN Xl.here hexec rfl (hb hbytes d10) rfl rfl ?_
        refine XS.iloadN Xl.here hexec rfl (hb hbytes d11) rfl ?_
        exact Steps.refl _)
      have c4 : Steps p.tables e below (s₁.setTop (entryFrame m #[.ref b, .int (Int32.ofNat o), .ref d, .int (Int32.ofNat q), .int (Int32.ofNat len)] 7)) (Tl.setTop (mkF m 13 #[.val (.ref b), .val (.int (Int32.ofNat (o + i))), .val (.ref d), .val (.int (Int32.ofNat (q + i))), .val (.int (Int32.ofNat len)), .val (.int (Int32.ofNat i)), z] [.int (cv A (o + i))])) := c3.trans (by
        refine Xl.aget hexec hAl rfl (hA.get (i := o + i) (by omega)) rfl rfl (hb hbytes d12) ?_
        exact Steps.refl _)
      have c5 : Steps p.tables e below (s₁.setTop (entryFrame m #[.ref b, .int (Int32.ofNat o), .ref d, .int (Int32.ofNat q), .int (Int32.ofNat len)] 7)) (Tl.setTop (mkF m 15 #[.val (.ref b), .val (.int (Int32.ofNat (o + i))), .val (.ref d), .val (.int (Int32.ofNat (q + i))), .val (.int (Int32.ofNat len)), .val (.int (Int32.ofNat i)), .val (.int (cv A (o + i)))] [])) := c4.trans (by
        refine XS.istoreS Xl.here hexec rfl (hb hbytes d13) rfl rfl hz ?_
        exact Steps.refl _)
      have c6 : Steps p.tables e below (s₁.setTop (entryFrame m #[.ref b, .int (Int32.ofNat o), .ref d, .int (Int32.ofNat q), .int (Int32.ofNat len)] 7)) (Tl.setTop (mkF m 31 #[.val (.ref b), .val (.int (Int32.ofNat (o + i))), .val (.ref d), .val (.int (Int32.ofNat (q + i))), .val (.int (Int32.ofNat len)), .val (.int (Int32.ofNat i)), .val (.int (cv A (o + i)))] [.int (lo8 (cv A (o + i))), .int (Int32.ofNat (q + i)), .ref d])) := c5.trans (by
        refine XS.iload Xl.here hexec rfl (hb hbytes d15) rfl ?_
        refine sipushV Xl.here hexec rfl 255 (hb hbytes d17) (by decide) ?_
        refine XS.icmpYes Xl.here hexec rfl (pc0 := 20) rfl (hb hbytes d20) rfl (ii_le_t (hp i (by omega))) (by decide) rfl ?_
        refine XS.aloadN Xl.here hexec rfl (hb hbytes d26) rfl rfl ?_
        refine XS.iloadN Xl.here hexec rfl (hb hbytes d27) rfl ?_
        refine XS.iload Xl.here hexec rfl (hb hbytes d28) rfl ?_
        refine i2b Xl.here hexec rfl (hb hbytes d30) rfl ?_
        exact Steps.refl _)
      obtain ⟨T7, X7, p7, st7⟩ := Xl.aput hexec hBk rfl hlt rfl (fits_lo8 (cv A (o + i))) (g := (mkF m 31 #[.val (.ref b), .val (.int (Int32.ofNat (o + i))), .val (.ref d), .val (.int (Int32.ofNat (q + i))), .val (.int (Int32.ofNat len)), .val (.int (Int32.ofNat i)), .val (.int (cv A (o + i)))] [.int (lo8 (cv A (o + i))), .int (Int32.ofNat (q + i)), .ref d])) rfl (rest := []) rfl (hb hbytes d31)
      have c8 : Steps p.tables e below (s₁.setTop (entryFrame m #[.ref b, .int (Int32.ofNat o), .ref d, .int (Int32.ofNat q), .int (Int32.ofNat len)] 7)) (T7.setTop (mkF m 32 #[.val (.ref b), .val (.int (Int32.ofNat (o + i))), .val (.ref d), .val (.int (Int32.ofNat (q + i))), .val (.int (Int32.ofNat len)), .val (.int (Int32.ofNat i)), .val (.int (cv A (o + i)))] [])) := c6.trans (st7 _ (Steps.refl _))
      have c9 : Steps p.tables e below (s₁.setTop (entryFrame m #[.ref b, .int (Int32.ofNat o), .ref d, .int (Int32.ofNat q), .int (Int32.ofNat len)] 7)) (T7.setTop (mkF m 3 #[.val (.ref b), .val (.int (Int32.ofNat (o + i) + 1)), .val (.ref d), .val (.int (Int32.ofNat (q + i) + 1)), .val (.int (Int32.ofNat len)), .val (.int (Int32.ofNat i + 1)), .val (.int (cv A (o + i)))] [])) := c8.trans (by
        refine iincV X7.here hexec rfl 1 (hb hbytes d32) (by decide) rfl rfl ?_
        refine iincV X7.here hexec rfl 1 (hb hbytes d35) (by decide) rfl rfl ?_
        refine iincV X7.here hexec rfl 1 (hb hbytes d38) (by decide) rfl rfl ?_
        refine XS.goto X7.here hexec rfl (pc0 := 41) rfl (hb hbytes d41) (by decide) rfl ?_
        exact Steps.refl _)
      have c10 : Steps p.tables e below (s₁.setTop (entryFrame m #[.ref b, .int (Int32.ofNat o), .ref d, .int (Int32.ofNat q), .int (Int32.ofNat len)] 7)) (T7.setTop (mkF m 3 #[.val (.ref b), .val (.int (Int32.ofNat (o + (i + 1)))), .val (.ref d), .val (.int (Int32.ofNat (q + (i + 1)))), .val (.int (Int32.ofNat len)), .val (.int (Int32.ofNat (i + 1))), .val (.int (cv A (o + i)))] [])) := by
        have := c9
        rw [succ32, succ32, succ32] at this
        exact this
      exact ih (i + 1) (by omega) _ (Or.inr ⟨_, rfl, rfl⟩) T7 _ (by rw [copyLocs_step, ← List.append_assoc]; exact X7) (pl.trans p7) (fl.step (by omega) hlt (by simp)) c10
  obtain ⟨T9, B9, z9, X9, p9, f9, g9⟩ := loop len 0 (by omega) .unset (Or.inl rfl) s₁ B (by simpa [copyLocs] using X0) ⟨hB0.1, fun _ _ => rfl, rfl⟩ (Laid.zero _ _ _) c2
  have c11 : Steps p.tables e below (s₁.setTop (entryFrame m #[.ref b, .int (Int32.ofNat o), .ref d, .int (Int32.ofNat q), .int (Int32.ofNat len)] 7)) (T9.setTop (mkF m 46 #[.val (.ref b), .val (.int (Int32.ofNat (o + len))), .val (.ref d), .val (.int (Int32.ofNat (q + len))), .val (.int (Int32.ofNat len)), .val (.int (Int32.ofNat len)), z9] [.int (Int32.ofNat len)])) := g9.trans (by
    refine XS.iload X9.here hexec rfl (hb hbytes d3) rfl ?_
    refine XS.iload X9.here hexec rfl (hb hbytes d5) rfl ?_
    refine XS.icmpYes X9.here hexec rfl (pc0 := 7) rfl (hb hbytes d7) rfl (ii_ge_t (nlt32 (by omega) (Nat.le_refl _))) (by decide) rfl ?_
    refine XS.iload X9.here hexec rfl (hb hbytes d44) rfl ?_
    exact Steps.refl _)
  exact ⟨T9, some (.int (Int32.ofNat len)), _, _, _, X9, by simp, rfl, rfl, (fun h => by cases h), ⟨rfl, B9, p9.from hh0, f9⟩, fun fs hl => c11.trans (X9.ireturnOut hexec hret rfl (Or.inl rfl) (hb hbytes d46) hl)⟩
end Cmp5
namespace Cmp3
def yN : MethodName := ⟨"java/lang/StringUTF16", "compress", "([CII)[B"⟩
abbrev yB : ByteArray := jdk_52_method_16_code
theorem d0 : decode yB 0 = .ok (.iload_n 2, 1) := by decide +kernel
theorem d1 : decode yB 1 = .ok (.newarray .byte, 2) := by decide +kernel
theorem d3 : decode yB 3 = .ok (.astore_n 3, 1) := by decide +kernel
theorem d4 : decode yB 4 = .ok (.aload_n 0, 1) := by decide +kernel
theorem d5 : decode yB 5 = .ok (.iload_n 1, 1) := by decide +kernel
theorem d6 : decode yB 6 = .ok (.aload_n 3, 1) := by decide +kernel
theorem d7 : decode yB 7 = .ok (.iconst 0, 1) := by decide +kernel
theorem d8 : decode yB 8 = .ok (.iload_n 2, 1) := by decide +kernel
theorem d9 : decode yB 9 = .ok (.invokestatic 115, 3) := by decide +kernel
theorem d12 : decode yB 12 = .ok (.istore 4, 2) := by decide +kernel
theorem d14 : decode yB 14 = .ok (.iload 4, 2) := by decide +kernel
theorem d16 : decode yB 16 = .ok (.iload_n 2, 1) := by decide +kernel
theorem d17 : decode yB 17 = .ok (.if_icmp (.eq) 40, 3) := by decide +kernel
theorem d57 : decode yB 57 = .ok (.aload_n 3, 1) := by decide +kernel
theorem d58 : decode yB 58 = .ok (.areturn, 1) := by decide +kernel
def site : List Cond := [.arrayClass .byte, Cmp5.tab] ++ staticW U16 115 Cmp5.yN
def tab : Cond := tabOf yN yB 6 (some (.array .byte)) site
def P (b : Addr) (A : Cell) (o len : Nat) (args : Array Value) (s : State) : Prop := args = #[.ref b, .int (Int32.ofNat o), .int (Int32.ofNat len)] ∧ Ch b A s ∧ o + len ≤ A.slots.size ∧ len ≤ 536870912 ∧ ∀ i, i < len → ¬ 255 < cv A (o + i)
def E (b : Addr) (A : Cell) (o len : Nat) (r : Option Value) (s u : State) : Prop := NewArr .byte "[B" len (fun j => .int (lo8 (cv A (o + j)))) r s u ∧ u.heap.size = s.heap.size + 1
/-- no char of the range above 255: a new byte[] of their low bytes -/
theorem law (l : Launch) (b : Addr) (A : Cell) (o len : Nat) : Law l yN 3 3 1 18 yB 6 (some (.array .byte)) site (P b A o len) (E b A o len) [] 1 len := by
  refine Law.of_walk (plainFor_of_name (by decide +kernel)) (by decide +kernel) (by decide +kernel) (by decide) (fun _ _ h => by rw [h.1]; rfl) (fun _ U U' hal hh h => ⟨h.1, h.2.1.mv hal hh, h.2.2⟩) (fun r U U' V V' h1 hal h2 h => ⟨NewArr.mv r U U' V V' h1 hal h2 h.1, by rw [h1, h2]; exact h.2⟩) ?_
  intro p e s m args below meth c s₁ X0 hexec hbytes hml hret hlk hnm hown hh0 W hP
  obtain ⟨rfl, hA, l1, l2, hp⟩ := hP
  have a31 := hA.1.2.2.2
  have c1 : Steps p.tables e below (s₁.setTop (entryFrame m #[.ref b, .int (Int32.ofNat o), .int (Int32.ofNat len)] 6)) (s₁.setTop (mkF m 0 #[.val (.ref b), .val (.int (Int32.ofNat o)), .val (.int (Int32.ofNat len)), .unset, .unset, .unset] [])) := entry rfl
  have c2 : Steps p.tables e below (s₁.setTop (entryFrame m #[.ref b, .int (Int32.ofNat o), .int (Int32.ofNat len)] 6)) (s₁.setTop (mkF m 1 #[.val (.ref b), .val (.int (Int32.ofNat o)), .val (.int (Int32.ofNat len)), .unset, .unset, .unset] [.int (Int32.ofNat len)])) := c1.trans (by
    refine XS.iloadN X0.here hexec rfl (hb hbytes d0) rfl ?_
    exact Steps.refl _)
  obtain ⟨T3, B3, X3, ba3, bs3, bv3, bh3, bf3, st3⟩ := X0.anew hexec (atype := .byte) (wk W (.arrayClass .byte)) rfl (by show len * 1 ≤ _; omega) (by omega) (g := (mkF m 1 #[.val (.ref b), .val (.int (Int32.ofNat o)), .val (.int (Int32.ofNat len)), .unset, .unset, .unset] [.int (Int32.ofNat len)])) rfl (hb hbytes d1) (rest := []) rfl (Nat.le_refl _) (by show 0 + len ≤ len; omega)
  rw [hh0] at ba3 st3
  have kp3 : XT.Kept s T3 := (XT.Kept.of_eq hh0).push bh3
  have hA3 := hA.keep X3.warmed.alike (kp3 _ _ hA.1.1)
  have hne : b ≠ s.heap.size := hA.1.ne
  have c4 : Steps p.tables e below (s₁.setTop (entryFrame m #[.ref b, .int (Int32.ofNat o), .int (Int32.ofNat len)] 6)) (T3.setTop (mkF m 3 #[.val (.ref b), .val (.int (Int32.ofNat o)), .val (.int (Int32.ofNat len)), .unset, .unset, .unset] [.ref s.heap.size])) := c2.trans (st3 _ (Steps.refl _))
  have c5 : Steps p.tables e below (s₁.setTop (entryFrame m #[.ref b, .int (Int32.ofNat o), .int (Int32.ofNat len)] 6)) (T3.setTop (mkF m 9 #[.val (.ref b), .val (.int (Int32.ofNat o)), .val (.int (Int32.ofNat len)), .val (.ref s.heap.size), .unset, .unset] [.int (Int32.ofNat len), .int 0, .ref s.heap.size, .int (Int32.ofNat o), .ref b])) := c4.trans (by
    refine XS.astoreN X3.here hexec rfl (hb hbytes d3) rfl rfl rfl ?_
    refine XS.aloadN X3.here hexec rfl (hb hbytes d4) rfl rfl ?_
    refine XS.iloadN X3.here hexec rfl (hb hbytes d5) rfl ?_
    refine XS.aloadN X3.here hexec rfl (hb hbytes d6) rfl rfl ?_
    refine iconstV X3.here hexec rfl 0 (hb hbytes d7) (by decide) ?_
    refine XS.iloadN X3.here hexec rfl (hb hbytes d8) rfl ?_
    exact Steps.refl _)
  obtain ⟨v6, T6, X6, E6, g6⟩ := X3.callS hexec (Cmp5.law l b A s.heap.size B3 o 0 len) hown (wks W (staticW U16 115 Cmp5.yN)) (wk W Cmp5.tab) (W := 0) (Nat.le_of_ble_eq_true rfl) (Nat.le_of_ble_eq_true rfl) (Nat.le_refl _) (by show 0 + len + 0 ≤ len; omega) (g := (mkF m 9 #[.val (.ref b), .val (.int (Int32.ofNat o)), .val (.int (Int32.ofNat len)), .val (.ref s.heap.size), .unset, .unset] [.int (Int32.ofNat len), .int (Int32.ofNat 0), .ref s.heap.size, .int (Int32.ofNat o), .ref b])) rfl (by rw [hml]; rfl) c5 (argsL := [.ref b, .int (Int32.ofNat o), .ref s.heap.size, .int (Int32.ofNat 0), .int (Int32.ofNat len)]) (rest := []) rfl rfl (by show 2 * 0 + 0 ≤ _; decide) (hb hbytes d9) (⟨rfl, hA3, ba3, hne, l1, by rw [bs3]; simp, hp⟩)
  obtain ⟨rfl, B6, p6, f6⟩ := E6
  have c7 : Steps p.tables e below (s₁.setTop (entryFrame m #[.ref b, .int (Int32.ofNat o), .int (Int32.ofNat len)] 6)) (T6.setTop (mkF m 12 #[.val (.ref b), .val (.int (Int32.ofNat o)), .val (.int (Int32.ofNat len)), .val (.ref s.heap.size), .unset, .unset] [.int (Int32.ofNat len)])) := g6
  have c8 : Steps p.tables e below (s₁.setTop (entryFrame m #[.ref b, .int (Int32.ofNat o), .int (Int32.ofNat len)] 6)) (T6.setTop (mkF m 58 #[.val (.ref b), .val (.int (Int32.ofNat o)), .val (.int (Int32.ofNat len)), .val (.ref s.heap.size), .val (.int (Int32.ofNat len)), .unset] [.ref s.heap.size])) := c7.trans (by
    refine XS.istore X6.here hexec rfl (hb hbytes d12) rfl rfl ?_
    refine XS.iload X6.here hexec rfl (hb hbytes d14) rfl ?_
    refine XS.iloadN X6.here hexec rfl (hb hbytes d16) rfl ?_
    refine XS.icmpYes X6.here hexec rfl (pc0 := 17) rfl (hb hbytes d17) rfl (ii_eq_t rfl) (by decide) rfl ?_
    refine XS.aloadN X6.here hexec rfl (hb hbytes d57) rfl rfl ?_
    exact Steps.refl _)
  have X8 := X6.wide (L' := []) (cells' := 1) (slots' := len) (fun x hx hlt => by
    simp only [List.nil_append, copyLocs, List.mem_map, List.mem_range] at hx
    obtain ⟨i, -, rfl⟩ := hx
    exact absurd hlt (Nat.lt_irrefl _)) (Nat.le_refl _) (by omega)
  exact ⟨T6, some (.ref s.heap.size), _, _, _, X8, rfl, rfl, rfl, (fun h => by cases h), ⟨⟨rfl, B6, ba3.like (X3.warmed.alike.symm.trans X6.warmed.alike) p6.1 f6.1 f6.2.1 f6.2.2.1, f6.2.1.trans bv3, by rw [X6.warmed.alike.findClass, f6.1]; exact bf3, by rw [f6.2.2.1, bs3]; simp, fun j hj => by rw [f6.2.2.2 j, if_pos (by omega)]; rfl, kp3.put p6 (Nat.le_refl _)⟩, by rw [p6.2.2, bh3, hh0]; simp⟩, fun fs hl => c8.trans (X8.areturnOut hexec rfl hret rfl (hb hbytes d58) hl)⟩
end Cmp3
namespace CodL
def yN : MethodName := ⟨"java/lang/StringUTF16", "coderFromArrayLen", "([BI)B"⟩
abbrev yB : ByteArray := jdk_52_method_15_code
theorem d0 : decode yB 0 = .ok (.iload_n 1, 1) := by decide +kernel
theorem d1 : decode yB 1 = .ok (.aload_n 0, 1) := by decide +kernel
theorem d2 : decode yB 2 = .ok (.arraylength, 1) := by decide +kernel
theorem d3 : decode yB 3 = .ok (.isub, 1) := by decide +kernel
theorem d4 : decode yB 4 = .ok (.bipush 31, 2) := by decide +kernel
theorem d6 : decode yB 6 = .ok (.iushr, 1) := by decide +kernel
theorem d7 : decode yB 7 = .ok (.i2b, 1) := by decide +kernel
theorem d8 : decode yB 8 = .ok (.ireturn, 1) := by decide +kernel
def site : List Cond := []
def tab : Cond := tabOf yN yB 2 (some .byte) site
def P (d : Addr) (B : Cell) (args : Array Value) (s : State) : Prop := args = #[.ref d, .int (Int32.ofNat B.slots.size)] ∧ Arr .byte d B s
def E (r : Option Value) (s u : State) : Prop := XT.PureE (some (.int 0)) r s u
/-- an array as long as the number of chars: LATIN1 -/
theorem law (l : Launch) (d : Addr) (B : Cell) : Law l yN 2 2 0 0 yB 2 (some .byte) site (P d B) E [] 0 0 := by
  refine Law.of_walk (plainFor_of_name (by decide +kernel)) (by decide +kernel) (by decide +kernel) (by decide) (fun _ _ h => by rw [h.1]; rfl) (fun _ U U' hal hh h => ⟨h.1, h.2.mv hal hh⟩) (fun r U U' V V' h1 hal h2 h => XT.PureE.mv r U U' V V' h1 hal h2 h) ?_
  intro p e s m args below meth c s₁ X0 hexec hbytes hml hret hlk hnm hown hh0 W hP
  obtain ⟨rfl, hB⟩ := hP
  have hB0 := hB.mv X0.warmed.alike hh0
  have c1 : Steps p.tables e below (s₁.setTop (entryFrame m #[.ref d, .int (Int32.ofNat B.slots.size)] 2)) (s₁.setTop (mkF m 0 #[.val (.ref d), .val (.int (Int32.ofNat B.slots.size))] [])) := entry rfl
  have c2 : Steps p.tables e below (s₁.setTop (entryFrame m #[.ref d, .int (Int32.ofNat B.slots.size)] 2)) (s₁.setTop (mkF m 2 #[.val (.ref d), .val (.int (Int32.ofNat B.slots.size))] [.ref d, .int (Int32.ofNat B.slots.size)])) := c1.trans (by
    refine XS.iloadN X0.here hexec rfl (hb hbytes d0) rfl ?_
    refine XS.aloadN X0.here hexec rfl (hb hbytes d1) rfl rfl ?_
    exact Steps.refl _)
  have c3 : Steps p.tables e below (s₁.setTop (entryFrame m #[.ref d, .int (Int32.ofNat B.slots.size)] 2)) (s₁.setTop (mkF m 8 #[.val (.ref d), .val (.int (Int32.ofNat B.slots.size))] [.int (lo8 (ushr (Int32.ofNat B.slots.size - Int32.ofNat B.slots.size) 31))])) := c2.trans (by
    refine X0.alen hexec hB0 rfl rfl (hb hbytes d2) ?_
    refine XS.isub X0.here hexec rfl (hb hbytes d3) rfl ?_
    refine bipushV X0.here hexec rfl 31 (hb hbytes d4) (by decide) ?_
    refine iushr X0.here hexec rfl (hb hbytes d6) rfl ?_
    refine i2b X0.here hexec rfl (hb hbytes d7) rfl ?_
    exact Steps.refl _)
  have e0 : lo8 (ushr (Int32.ofNat B.slots.size - Int32.ofNat B.slots.size) 31) = 0 := by rw [Int32.sub_self]; decide
  rw [e0] at c3
  exact ⟨s₁, some (.int 0), _, _, _, X0, rfl, rfl, rfl, (fun h => by cases h), ⟨rfl, hh0⟩, fun fs hl => c3.trans (X0.ireturnOut hexec hret rfl (Or.inr (Or.inr (Or.inl rfl))) (hb hbytes d8) hl)⟩
end CodL
/-- the String at a is Latin-1 over a new byte[] (the heap's one new cell): the low bytes of the len chars of A from o on; every cell but a is kept -/
def Got (a : Addr) (D : Cell) (fV fC : Field) (A : Cell) (o len : Nat) (r : Option Value) (s u : State) : Prop := r = none ∧ ∃ D' V : Cell, Blank "java/lang/String" a D' u ∧ Same D D' [fV.slot, fC.slot] ∧ D'.slots[fV.slot]? = some (.ref s.heap.size) ∧ D'.slots[fC.slot]? = some (.int 0) ∧ Arr .byte s.heap.size V u ∧ V.vm = .none ∧ u.vm.findClass "[B" = some V.cls ∧ V.slots.size = len ∧ (∀ j, j < len → V.slots[j]? = some (.int (lo8 (cv A (o + j))))) ∧ (∀ (y : Addr) (c : Cell), y ≠ a → s.heap[y]? = some c → u.heap[y]? = some c) ∧ u.heap.size = s.heap.size + 1
theorem Got.mv {a : Addr} {D A : Cell} {fV fC : Field} {o len : Nat} : ∀ r (U U' V V' : State), U'.heap = U.heap → V.vm.Alike V'.vm → V'.heap = V.heap → Got a D fV fC A o len r U V → Got a D fV fC A o len r U' V' :=
  fun r U U' V V' h1 hal h2 ⟨e0, D', X, a1, a2, a3, a4, a5, a6, a7, a8, a9, a10, a11⟩ => ⟨e0, D', X, a1.mv hal h2, a2, by rw [h1]; exact a3, a4, by rw [h1]; exact a5.mv hal h2, a6, by rw [hal.findClass]; exact a7, a8, a9, by rw [h1, h2]; exact a10, by rw [h1, h2]; exact a11⟩
namespace New4
def yN : MethodName := ⟨"java/lang/String", "<init>", "([CIILjava/lang/Void;)V"⟩
abbrev yB : ByteArray := jdk_42_method_149_code
theorem d0 : decode yB 0 = .ok (.aload_n 0, 1) := by decide +kernel
theorem d1 : decode yB 1 = .ok (.invokespecial 1, 3) := by decide +kernel
theorem d4 : decode yB 4 = .ok (.iload_n 3, 1) := by decide +kernel
theorem d5 : decode yB 5 = .ok (.ifCond (.ne) 22, 3) := by decide +kernel
theorem d27 : decode yB 27 = .ok (.getstatic 38, 3) := by decide +kernel
theorem d30 : decode yB 30 = .ok (.ifCond (.eq) 28, 3) := by decide +kernel
theorem d33 : decode yB 33 = .ok (.aload_n 1, 1) := by decide +kernel
theorem d34 : decode yB 34 = .ok (.iload_n 2, 1) := by decide +kernel
theorem d35 : decode yB 35 = .ok (.iload_n 3, 1) := by decide +kernel
theorem d36 : decode yB 36 = .ok (.invokestatic 177, 3) := by decide +kernel
theorem d39 : decode yB 39 = .ok (.astore 5, 2) := by decide +kernel
theorem d41 : decode yB 41 = .ok (.aload_n 0, 1) := by decide +kernel
theorem d42 : decode yB 42 = .ok (.aload 5, 2) := by decide +kernel
theorem d44 : decode yB 44 = .ok (.iload_n 3, 1) := by decide +kernel
theorem d45 : decode yB 45 = .ok (.invokestatic 47, 3) := by decide +kernel
theorem d48 : decode yB 48 = .ok (.putfield 15, 3) := by decide +kernel
theorem d51 : decode yB 51 = .ok (.aload_n 0, 1) := by decide +kernel
theorem d52 : decode yB 52 = .ok (.aload 5, 2) := by decide +kernel
theorem d54 : decode yB 54 = .ok (.putfield 9, 3) := by decide +kernel
theorem d57 : decode yB 57 = .ok (.return_, 1) := by decide +kernel
def site : List Cond := [.fieldLink "java/lang/String" 38 "java/lang/String" "COMPACT_STRINGS" "Z", Cmp3.tab, CodL.tab, .laysFinal "java/lang/String" "java/lang/String" "value" "[B", .fieldLink "java/lang/String" 9 "java/lang/String" "value" "[B", .laysFinal "java/lang/String" "java/lang/String" "coder" "B", .fieldLink "java/lang/String" 15 "java/lang/String" "coder" "B"] ++ objW "java/lang/String" 1 ++ staticW "java/lang/String" 177 Cmp3.yN ++ staticW "java/lang/String" 47 CodL.yN
def tab : Cond := tabOf yN yB 6 none site
def P (a : Addr) (D : Cell) (fV fC : Field) (b : Addr) (A : Cell) (z : Int32) (o len : Nat) (args : Array Value) (s : State) : Prop := args = #[.ref a, .ref b, .int (Int32.ofNat o), .int (Int32.ofNat len), .null] ∧ Blank "java/lang/String" a D s ∧ Found "java/lang/String" "value" "[B" fV s ∧ Found "java/lang/String" "coder" "B" fC s ∧ Ch b A s ∧ StaticIs s "java/lang/String" "COMPACT_STRINGS" "Z" (.int z) ∧ ¬ z = 0 ∧ 0 < len ∧ o + len ≤ A.slots.size ∧ len ≤ 536870912 ∧ ∀ i, i < len → ¬ 255 < cv A (o + i)
def E (a : Addr) (D : Cell) (fV fC : Field) (A : Cell) (o len : Nat) (r : Option Value) (s u : State) : Prop := Got a D fV fC A o len r s u
/-- len > 0, no char of the range above 255: a Latin-1 String of their low bytes -/
theorem law (l : Launch) (a : Addr) (D : Cell) (fV fC : Field) (b : Addr) (A : Cell) (z : Int32) (o len : Nat) : Law l yN 5 4 2 35 yB 6 none site (P a D fV fC b A z o len) (E a D fV fC A o len) [⟨a, fC.slot⟩, ⟨a, fV.slot⟩] 1 len := by
  refine Law.of_walk (plainFor_of_name (by decide +kernel)) (by decide +kernel) (by decide +kernel) (by decide) (fun _ _ h => by rw [h.1]; rfl) (fun _ U U' hal hh h => ⟨h.1, h.2.1.mv hal hh, h.2.2.1.al hal, h.2.2.2.1.al hal, h.2.2.2.2.1.mv hal hh, h.2.2.2.2.2.1.there hal hh, h.2.2.2.2.2.2⟩) (fun r U U' V V' h1 hal h2 h => Got.mv r U U' V V' h1 hal h2 h) ?_
  intro p e s m args below meth c s₁ X0 hexec hbytes hml hret hlk hnm hown hh0 W hP
  obtain ⟨rfl, hB, f1, f2, hA, s1, hz, l0, l1, l2, hp⟩ := hP
  have a31 := hA.1.2.2.2
  have c1 : Steps p.tables e below (s₁.setTop (entryFrame m #[.ref a, .ref b, .int (Int32.ofNat o), .int (Int32.ofNat len), .null] 6)) (s₁.setTop (mkF m 0 #[.val (.ref a), .val (.ref b), .val (.int (Int32.ofNat o)), .val (.int (Int32.ofNat len)), .val .null, .unset] [])) := entry rfl
  have c2 : Steps p.tables e below (s₁.setTop (entryFrame m #[.ref a, .ref b, .int (Int32.ofNat o), .int (Int32.ofNat len), .null] 6)) (s₁.setTop (mkF m 1 #[.val (.ref a), .val (.ref b), .val (.int (Int32.ofNat o)), .val (.int (Int32.ofNat len)), .val .null, .unset] [.ref a])) := c1.trans (by
    refine XS.aloadN X0.here hexec rfl (hb hbytes d0) rfl rfl ?_
    exact Steps.refl _)
  obtain ⟨T3, X3, q3, st3⟩ := X0.oinit hexec hown (wks W (objW "java/lang/String" 1)) (g := (mkF m 1 #[.val (.ref a), .val (.ref b), .val (.int (Int32.ofNat o)), .val (.int (Int32.ofNat len)), .val .null, .unset] [.ref a])) rfl (by rw [hml]; rfl) (rest := []) rfl (hb hbytes d1) (W := 0) (by show 2 * 0 + 0 ≤ _; decide) (Nat.le_of_ble_eq_true rfl) (Nat.le_of_ble_eq_true rfl)
  have hh3 := q3.trans hh0
  have c4 : Steps p.tables e below (s₁.setTop (entryFrame m #[.ref a, .ref b, .int (Int32.ofNat o), .int (Int32.ofNat len), .null] 6)) (T3.setTop (mkF m 27 #[.val (.ref a), .val (.ref b), .val (.int (Int32.ofNat o)), .val (.int (Int32.ofNat len)), .val .null, .unset] [])) := (c2.trans (st3 _ (Steps.refl _))).trans (by
    refine XS.iloadN X3.here hexec rfl (hb hbytes d4) rfl ?_
    refine XS.ifYes X3.here hexec rfl (pc0 := 5) rfl (hb hbytes d5) rfl (i0_ne_t (nz32 (by omega) l0)) (by decide) rfl ?_
    exact Steps.refl _)
  obtain ⟨T5, X5, q5, st5⟩ := X3.sget hexec hown (wk W (.fieldLink "java/lang/String" 38 "java/lang/String" "COMPACT_STRINGS" "Z")) s1 (fun _ _ h => by rw [hh3]; exact h) (g := (mkF m 27 #[.val (.ref a), .val (.ref b), .val (.int (Int32.ofNat o)), .val (.int (Int32.ofNat len)), .val .null, .unset] [])) rfl (hb hbytes d27)
  have hh5 := q5.trans hh3
  have c6 : Steps p.tables e below (s₁.setTop (entryFrame m #[.ref a, .ref b, .int (Int32.ofNat o), .int (Int32.ofNat len), .null] 6)) (T5.setTop (mkF m 30 #[.val (.ref a), .val (.ref b), .val (.int (Int32.ofNat o)), .val (.int (Int32.ofNat len)), .val .null, .unset] [.int z])) := c4.trans (st5 _ (Steps.refl _))
  have c7 : Steps p.tables e below (s₁.setTop (entryFrame m #[.ref a, .ref b, .int (Int32.ofNat o), .int (Int32.ofNat len), .null] 6)) (T5.setTop (mkF m 36 #[.val (.ref a), .val (.ref b), .val (.int (Int32.ofNat o)), .val (.int (Int32.ofNat len)), .val .null, .unset] [.int (Int32.ofNat len), .int (Int32.ofNat o), .ref b])) := c6.trans (by
    refine XS.ifNo X5.here hexec rfl (hb hbytes d30) rfl (i0_eq_f hz) ?_
    refine XS.aloadN X5.here hexec rfl (hb hbytes d33) rfl rfl ?_
    refine XS.iloadN X5.here hexec rfl (hb hbytes d34) rfl ?_
    refine XS.iloadN X5.here hexec rfl (hb hbytes d35) rfl ?_
    exact Steps.refl _)
  obtain ⟨v8, T8, X8, E8, g8⟩ := X5.callS hexec (Cmp3.law l b A o len) hown (wks W (staticW "java/lang/String" 177 Cmp3.yN)) (wk W Cmp3.tab) (W := 0) (Nat.le_of_ble_eq_true rfl) (Nat.le_of_ble_eq_true rfl) (Nat.le_refl _) (by show 0 + len ≤ len; omega) (g := (mkF m 36 #[.val (.ref a), .val (.ref b), .val (.int (Int32.ofNat o)), .val (.int (Int32.ofNat len)), .val .null, .unset] [.int (Int32.ofNat len), .int (Int32.ofNat o), .ref b])) rfl (by rw [hml]; rfl) c7 (argsL := [.ref b, .int (Int32.ofNat o), .int (Int32.ofNat len)]) (rest := []) rfl rfl (by show 2 * 0 + 0 ≤ _; decide) (hb hbytes d36) (⟨rfl, hA.mv X5.warmed.alike hh5, l1, l2, hp⟩)
  obtain ⟨e8, z8⟩ := E8
  obtain ⟨rfl, N, n1, n2, n3, n4, n5, n6⟩ := NewArr.mv _ T5 s _ _ hh5.symm (Vm.Alike.refl _) rfl e8
  rw [hh5] at z8
  have hB1 := hB.keep X8.warmed.alike (n6 _ _ hB.1)
  have hne : s.heap.size ≠ a := (Nat.ne_of_lt (Array.getElem?_eq_some_iff.mp hB.1).1).symm
  have c9 : Steps p.tables e below (s₁.setTop (entryFrame m #[.ref a, .ref b, .int (Int32.ofNat o), .int (Int32.ofNat len), .null] 6)) (T8.setTop (mkF m 39 #[.val (.ref a), .val (.ref b), .val (.int (Int32.ofNat o)), .val (.int (Int32.ofNat len)), .val .null, .unset] [.ref s.heap.size])) := g8
  have c10 : Steps p.tables e below (s₁.setTop (entryFrame m #[.ref a, .ref b, .int (Int32.ofNat o), .int (Int32.ofNat len), .null] 6)) (T8.setTop (mkF m 45 #[.val (.ref a), .val (.ref b), .val (.int (Int32.ofNat o)), .val (.int (Int32.ofNat len)), .val .null, .val (.ref s.heap.size)] [.int (Int32.ofNat N.slots.size), .ref s.heap.size, .ref a])) := by
    have hc : Steps p.tables e below (s₁.setTop (entryFrame m #[.ref a, .ref b, .int (Int32.ofNat o), .int (Int32.ofNat len), .null] 6)) (T8.setTop (mkF m 45 #[.val (.ref a), .val (.ref b), .val (.int (Int32.ofNat o)), .val (.int (Int32.ofNat len)), .val .null, .val (.ref s.heap.size)] [.int (Int32.ofNat len), .ref s.heap.size, .ref a])) := c9.trans (by
      refine XS.astore X8.here hexec rfl (hb hbytes d39) rfl rfl rfl ?_
      refine XS.aloadN X8.here hexec rfl (hb hbytes d41) rfl rfl ?_
      refine XS.aload X8.here hexec rfl (hb hbytes d42) rfl rfl ?_
      refine XS.iloadN X8.here hexec rfl (hb hbytes d44) rfl ?_
      exact Steps.refl _)
    rw [n4]; exact hc
  obtain ⟨v11, T11, X11, E11, g11⟩ := X8.callS hexec (CodL.law l s.heap.size N) hown (wks W (staticW "java/lang/String" 47 CodL.yN)) (wk W CodL.tab) (W := 1) (Nat.le_of_ble_eq_true rfl) (Nat.le_of_ble_eq_true rfl) (Nat.le_refl _) (by show 0 + len + 0 ≤ len; omega) (g := (mkF m 45 #[.val (.ref a), .val (.ref b), .val (.int (Int32.ofNat o)), .val (.int (Int32.ofNat len)), .val .null, .val (.ref s.heap.size)] [.int (Int32.ofNat N.slots.size), .ref s.heap.size, .ref a])) rfl (by rw [hml]; rfl) c10 (argsL := [.ref s.heap.size, .int (Int32.ofNat N.slots.size)]) (rest := [.ref a]) rfl rfl (by show 2 * 0 + (1 + 0) ≤ _; decide) (hb hbytes d45) (⟨rfl, n1⟩)
  obtain ⟨rfl, q11⟩ := E11
  have hB11 := hB1.mv (X8.warmed.alike.symm.trans X11.warmed.alike) q11
  have c12 : Steps p.tables e below (s₁.setTop (entryFrame m #[.ref a, .ref b, .int (Int32.ofNat o), .int (Int32.ofNat len), .null] 6)) (T11.setTop (mkF m 48 #[.val (.ref a), .val (.ref b), .val (.int (Int32.ofNat o)), .val (.int (Int32.ofNat len)), .val .null, .val (.ref s.heap.size)] [.int 0, .ref a])) := g11
  obtain ⟨T13, X13, p13, bl13, sl13, st13⟩ := X11.finit hexec hown (wk W (.fieldLink "java/lang/String" 15 "java/lang/String" "coder" "B")) (Or.inr ⟨_, (wk W (.laysFinal "java/lang/String" "java/lang/String" "coder" "B"))⟩) (Or.inl ⟨rfl, hnm⟩) f2 (Or.inl rfl) hB11 (t := .byte) (by decide +kernel) rfl (g := (mkF m 48 #[.val (.ref a), .val (.ref b), .val (.int (Int32.ofNat o)), .val (.int (Int32.ofNat len)), .val .null, .val (.ref s.heap.size)] [.int 0, .ref a])) rfl (rest := []) rfl (hb hbytes d48)
  have c14 : Steps p.tables e below (s₁.setTop (entryFrame m #[.ref a, .ref b, .int (Int32.ofNat o), .int (Int32.ofNat len), .null] 6)) (T13.setTop (mkF m 54 #[.val (.ref a), .val (.ref b), .val (.int (Int32.ofNat o)), .val (.int (Int32.ofNat len)), .val .null, .val (.ref s.heap.size)] [.ref s.heap.size, .ref a])) := (c12.trans (st13 _ (Steps.refl _))).trans (by
    refine XS.aloadN X13.here hexec rfl (hb hbytes d51) rfl rfl ?_
    refine XS.aload X13.here hexec rfl (hb hbytes d52) rfl rfl ?_
    exact Steps.refl _)
  obtain ⟨T15, X15, p15, bl15, sl15, st15⟩ := X13.finit hexec hown (wk W (.fieldLink "java/lang/String" 9 "java/lang/String" "value" "[B")) (Or.inr ⟨_, (wk W (.laysFinal "java/lang/String" "java/lang/String" "value" "[B"))⟩) (Or.inl ⟨rfl, hnm⟩) f1 (Or.inl rfl) bl13 (t := (.array .byte)) (by decide +kernel) rfl (g := (mkF m 54 #[.val (.ref a), .val (.ref b), .val (.int (Int32.ofNat o)), .val (.int (Int32.ofNat len)), .val .null, .val (.ref s.heap.size)] [.ref s.heap.size, .ref a])) rfl (rest := []) rfl (hb hbytes d54)
  have c16 : Steps p.tables e below (s₁.setTop (entryFrame m #[.ref a, .ref b, .int (Int32.ofNat o), .int (Int32.ofNat len), .null] 6)) (T15.setTop (mkF m 57 #[.val (.ref a), .val (.ref b), .val (.int (Int32.ofNat o)), .val (.int (Int32.ofNat len)), .val .null, .val (.ref s.heap.size)] [])) := c14.trans (st15 _ (Steps.refl _))
  have ap := apart (Or.inr ⟨_, (wk W (.laysFinal "java/lang/String" "java/lang/String" "value" "[B"))⟩) (Or.inr ⟨_, (wk W (.laysFinal "java/lang/String" "java/lang/String" "coder" "B"))⟩) f1 f2 (t₁ := .array .byte) (t₂ := .byte) (by decide +kernel) (by decide +kernel) (by decide)
  have al := X8.warmed.alike.symm.trans X15.warmed.alike
  have n7 : T11.heap[s.heap.size]? = some N := by rw [q11]; exact n1.1
  exact ⟨T15, none, _, _, _, X15, by simp, rfl, by omega, (fun _ => rfl), ⟨rfl, _, N, bl15, ((Same.refl D _).set _ (by simp)).set _ (by simp), sl15, (Cell.slots_setSlot_ne _ ap).trans sl13, n1.keep al (p15.other hne (p13.other hne n7)), n2, by rw [al.findClass]; exact n3, n4, n5, fun y c h1 h2 => p15.other h1 (p13.other h1 (by rw [q11]; exact n6 y c h2)), by rw [p15.2.2, p13.2.2, q11]; exact z8⟩, fun fs hl => c16.trans (X15.returnOut hexec hret (hb hbytes d57) hl)⟩
end New4
namespace New1
def yN : MethodName := ⟨"java/lang/String", "<init>", "([C)V"⟩
abbrev yB : ByteArray := jdk_42_method_3_code
theorem d0 : decode yB 0 = .ok (.aload_n 0, 1) := by decide +kernel
theorem d1 : decode yB 1 = .ok (.aload_n 1, 1) := by decide +kernel
theorem d2 : decode yB 2 = .ok (.iconst 0, 1) := by decide +kernel
theorem d3 : decode yB 3 = .ok (.aload_n 1, 1) := by decide +kernel
theorem d4 : decode yB 4 = .ok (.arraylength, 1) := by decide +kernel
theorem d5 : decode yB 5 = .ok (.aconst_null, 1) := by decide +kernel
theorem d6 : decode yB 6 = .ok (.invokespecial 27, 3) := by decide +kernel
theorem d9 : decode yB 9 = .ok (.return_, 1) := by decide +kernel
def site : List Cond := [New4.tab] ++ initW "java/lang/String" 27 New4.yN
def tab : Cond := tabOf yN yB 2 none site
def P (a : Addr) (D : Cell) (fV fC : Field) (b : Addr) (A : Cell) (z : Int32) (args : Array Value) (s : State) : Prop := args = #[.ref a, .ref b] ∧ Blank "java/lang/String" a D s ∧ Found "java/lang/String" "value" "[B" fV s ∧ Found "java/lang/String" "coder" "B" fC s ∧ Ch b A s ∧ StaticIs s "java/lang/String" "COMPACT_STRINGS" "Z" (.int z) ∧ ¬ z = 0 ∧ 0 < A.slots.size ∧ A.slots.size ≤ 536870912 ∧ ∀ i, i < A.slots.size → ¬ 255 < cv A i
def E (a : Addr) (D : Cell) (fV fC : Field) (A : Cell) (r : Option Value) (s u : State) : Prop := Got a D fV fC A 0 A.slots.size r s u
/-- new String(chars), not empty, no char above 255: a Latin-1 String of their low bytes -/
theorem law (l : Launch) (a : Addr) (D : Cell) (fV fC : Field) (b : Addr) (A : Cell) (z : Int32) : Law l yN 2 1 3 52 yB 2 none site (P a D fV fC b A z) (E a D fV fC A) [⟨a, fC.slot⟩, ⟨a, fV.slot⟩] 1 A.slots.size := by
  refine Law.of_walk (plainFor_of_name (by decide +kernel)) (by decide +kernel) (by decide +kernel) (by decide) (fun _ _ h => by rw [h.1]; rfl) (fun _ U U' hal hh h => ⟨h.1, h.2.1.mv hal hh, h.2.2.1.al hal, h.2.2.2.1.al hal, h.2.2.2.2.1.mv hal hh, h.2.2.2.2.2.1.there hal hh, h.2.2.2.2.2.2⟩) (fun r U U' V V' h1 hal h2 h => Got.mv r U U' V V' h1 hal h2 h) ?_
  intro p e s m args below meth c s₁ X0 hexec hbytes hml hret hlk hnm hown hh0 W hP
  obtain ⟨rfl, hB, f1, f2, hA, s1, hz, l0, l2, hp⟩ := hP
  have c1 : Steps p.tables e below (s₁.setTop (entryFrame m #[.ref a, .ref b] 2)) (s₁.setTop (mkF m 0 #[.val (.ref a), .val (.ref b)] [])) := entry rfl
  have c2 : Steps p.tables e below (s₁.setTop (entryFrame m #[.ref a, .ref b] 2)) (s₁.setTop (mkF m 6 #[.val (.ref a), .val (.ref b)] [.null, .int (Int32.ofNat A.slots.size), .int 0, .ref b, .ref a])) := c1.trans (by
    refine XS.aloadN X0.here hexec rfl (hb hbytes d0) rfl rfl ?_
    refine XS.aloadN X0.here hexec rfl (hb hbytes d1) rfl rfl ?_
    refine iconstV X0.here hexec rfl 0 (hb hbytes d2) (by decide) ?_
    refine XS.aloadN X0.here hexec rfl (hb hbytes d3) rfl rfl ?_
    refine X0.alen hexec (hA.1.mv X0.warmed.alike hh0) rfl rfl (hb hbytes d4) ?_
    refine XS.aconstNull X0.here hexec rfl (hb hbytes d5) ?_
    exact Steps.refl _)
  obtain ⟨v3, T3, X3, E3, g3⟩ := X0.callN hexec (New4.law l a D fV fC b A z 0 A.slots.size) rfl hown (wks W (initW "java/lang/String" 27 New4.yN)) (W New4.tab (by simp only [site, List.mem_cons, List.mem_append, true_or, or_true])) (W := 0) (Nat.le_of_ble_eq_true rfl) (Nat.le_of_ble_eq_true rfl) (Nat.le_refl _) (by show 0 + A.slots.size ≤ A.slots.size; omega) (g := (mkF m 6 #[.val (.ref a), .val (.ref b)] [.null, .int (Int32.ofNat A.slots.size), .int (Int32.ofNat 0), .ref b, .ref a])) rfl (by rw [hml]; rfl) c2 (argsL := [.ref b, .int (Int32.ofNat 0), .int (Int32.ofNat A.slots.size), .null]) (rest := []) rfl rfl (by show 2 * 0 + 0 ≤ _; decide) (hb hbytes d6) (⟨rfl, hB.mv X0.warmed.alike hh0, f1.al X0.warmed.alike, f2.al X0.warmed.alike, hA.mv X0.warmed.alike hh0, s1.there X0.warmed.alike hh0, hz, l0, by omega, l2, fun i hi => by rw [Nat.zero_add]; exact hp i hi⟩)
  have e0 := Got.mv _ s₁ s _ _ hh0.symm (Vm.Alike.refl _) rfl E3
  obtain rfl := e0.1
  have c4 : Steps p.tables e below (s₁.setTop (entryFrame m #[.ref a, .ref b] 2)) (T3.setTop (mkF m 9 #[.val (.ref a), .val (.ref b)] [])) := g3
  exact ⟨T3, none, _, _, _, X3, by simp, rfl, by omega, (fun _ => rfl), e0, fun fs hl => c4.trans (X3.returnOut hexec hret (hb hbytes d9) hl)⟩
theorem pays {l : Launch} {R : Room} {p : Program} {e : Env} {below : List Frame} {s : State} {sargs : Array Value} {len W : Nat} (a : Addr) (D : Cell) (fV fC : Field) (b : Addr) (A : Cell) (z : Int32) (htab : tab.before sargs s = true) (hfr : 4 ≤ R.frames) (hlo : W + 65 ≤ R.locals) :
    Back l R p e below s sargs yN len W (fun A₁ a₁ => A₁.cells + 1 ≤ R.cells ∧ A₁.slots + A.slots.size ≤ R.slots ∧ P a D fV fC b A z a₁ A₁.U) (fun A₁ _ v₁ B₁ => E a D fV fC A v₁ A₁.U B₁.U ∧ B₁.locs = A₁.locs ++ [⟨a, fC.slot⟩, ⟨a, fV.slot⟩] ∧ B₁.cells = A₁.cells + 1 ∧ B₁.slots = A₁.slots + A.slots.size) :=
  (law l a D fV fC b A z).pays htab hfr (by omega)
end New1
/-- the byte, read back as charAt reads it, is the char -/
theorem lo8_mask {x : Int32} (h0 : ¬ x < 0) (h1 : ¬ 255 < x) : lo8 x &&& 255 = x := by
  have t : ∀ k : Fin 256, lo8 (Int32.ofNat k.val) &&& 255 = Int32.ofNat k.val := by decide +kernel
  rw [Int32.lt_iff_toInt_lt] at h0 h1
  have e0 : (0 : Int32).toInt = 0 := rfl
  have e1 : (255 : Int32).toInt = 255 := rfl
  obtain ⟨k, hk⟩ : ∃ k : Nat, x.toInt = k := ⟨x.toInt.toNat, by omega⟩
  have hx : x = Int32.ofNat k := Int32.toInt_inj.mp (by rw [hk, Int32.toInt_ofNat_small (by omega)])
  rw [hx]
  exact t ⟨k, by omega⟩
end StrChars
namespace StrChars.Road
open Jvm Sem ClassFile Op Lib Jvm.Stand Jvm.Free Jvm.Free.XT
open Jvm.Lib.Cold (StaticIs)
abbrev ST : String := "java/lang/String"
/-- every table word that New1's law asks, flat -/
abbrev words : List Jvm.Cond := [.code New1.yN New1.yB 2 none, .initialized ST, .methodLink ST 27 New4.yN, .instanceMethod New4.yN,
  .code New4.yN New4.yB 6 none, .fieldLink ST 38 ST "COMPACT_STRINGS" "Z", .laysFinal ST ST "value" "[B", .fieldLink ST 9 ST "value" "[B", .laysFinal ST ST "coder" "B", .fieldLink ST 15 ST "coder" "B",
  .methodLink ST 1 Lib.objectInit, .instanceMethod Lib.objectInit, .code Lib.objectInit ⟨#[0xb1]⟩ 1 none, .methodLink ST 177 Cmp3.yN, .static Cmp3.yN, .methodLink ST 47 CodL.yN, .static CodL.yN,
  .code Cmp3.yN Cmp3.yB 6 (some (.array .byte)), .initialized U16, .arrayClass .byte, .methodLink U16 115 Cmp5.yN, .static Cmp5.yN, .code Cmp5.yN Cmp5.yB 7 (some .int), .code CodL.yN CodL.yB 2 (some .byte)]
theorem tab_of {a : Array Value} {s : State} (h : ∀ w ∈ words, w.before a s = true) : New1.tab.before a s = true := by
  have h5 : Cmp5.tab.before a s = true := unparts (wk h (.code Cmp5.yN Cmp5.yB 7 (some .int))) (wks h (.initialized Cmp5.yN.cls :: Cmp5.site))
  have hc : CodL.tab.before a s = true := unparts (wk h (.code CodL.yN CodL.yB 2 (some .byte))) (wks h (.initialized CodL.yN.cls :: CodL.site))
  have q5 : ∀ w ∈ Cmp5.tab :: words, w.before a s = true := fun w hw => (List.mem_cons.mp hw).elim (fun e => e ▸ h5) (h w)
  have h3 : Cmp3.tab.before a s = true := unparts (wk q5 (.code Cmp3.yN Cmp3.yB 6 (some (.array .byte)))) (wks q5 (.initialized Cmp3.yN.cls :: Cmp3.site))
  have q3 : ∀ w ∈ Cmp3.tab :: CodL.tab :: words, w.before a s = true := fun w hw => (List.mem_cons.mp hw).elim (fun e => e ▸ h3) fun hw => (List.mem_cons.mp hw).elim (fun e => e ▸ hc) (h w)
  have h4 : New4.tab.before a s = true := unparts (wk q3 (.code New4.yN New4.yB 6 none)) (wks q3 (.initialized New4.yN.cls :: New4.site))
  have q4 : ∀ w ∈ New4.tab :: words, w.before a s = true := fun w hw => (List.mem_cons.mp hw).elim (fun e => e ▸ h4) (h w)
  exact unparts (wk q4 (.code New1.yN New1.yB 2 none)) (wks q4 (.initialized New1.yN.cls :: New1.site))
/-- the words ride from the start Z to the walk's own state -/
theorem moved {Z s : State} {a0 args : Array Value} (hZ : Z.Warmed39 s.vm) (hw : ∀ d ∈ words, d.before a0 Z = true) : ∀ d ∈ words, d.before args s = true := fun d hd => by
  have q := hw d hd
  have t : ∀ d ∈ words, d = .arrayClass .byte ∨ (d.onTables && d.keepsFace) = true := by decide +kernel
  rcases t d hd with rfl | t
  · exact RoadKit.mvA hZ q
  · exact RoadKit.mv hZ q t
/-- WHAT COMES BACK, over the tables of the start Z: h the heap at the call, h' behind it -/
def Q (Z : State) (x : Addr) (A : Cell) (h : Heap) (v : Option Value) (h' : Heap) (L : List Loc) : Prop := v = none ∧ (∀ y ∈ L, y.base = x) ∧ RoadKit.Keep h h' [x] ∧ h'.size = h.size + 1 ∧ RoadKit.Exa Z h' x ST ∧ RoadKit.Fld Z h' x ST "value" "[B" (.ref h.size) ∧ RoadKit.Fld Z h' x ST "coder" "B" (.int 0) ∧
  (∃ V : Cell, RoadKit.Arr Z h' h.size V .byte ∧ V.vm = .none ∧ Z.vm.findClass "[B" = some V.cls ∧ V.slots.size = A.slots.size ∧ ∀ j, j < A.slots.size → V.slots[j]? = some (.int (lo8 (cv A j)))) ∧
  ∀ (O n d : String) (w : Value), RoadKit.Fld Z h x O n d w → RoadKit.slotOf Z O n d ≠ RoadKit.slotOf Z ST "value" "[B" → RoadKit.slotOf Z O n d ≠ RoadKit.slotOf Z ST "coder" "B" → RoadKit.Fld Z h' x O n d w
/-- **new String(chars) AT A CALL, IN THE ROAD'S FORM**: for specialBack behind newO: x the fresh String, b the char[] with the cell A -/
theorem back {p : Program} {l : Launch} {e : Env} {R : Room} {s : State} {args : Array Value} {below : List Frame} {len W : Nat} {Z : State} {a0 : Array Value} {h : Heap} (hZ : Z.Warmed39 s.vm) (hw : ∀ d ∈ words, d.before a0 Z = true) {kI : Nat} (wi : (Jvm.Cond.instantiable ST kI).before a0 Z = true)
    {x b : Addr} {A : Cell} {z : Int32} {v0 c0 : Value} (E : RoadKit.Exa Z h x ST) (V : RoadKit.Fld Z h x ST "value" "[B" v0) (C : RoadKit.Fld Z h x ST "coder" "B" c0) (K : RoadKit.Arr Z h b A .char) (hty : Typed .char A) (S : RoadKit.Sta Z h ST "COMPACT_STRINGS" "Z" (.int z)) (hz : ¬ z = 0)
    (l0 : 0 < A.slots.size) (l2 : A.slots.size ≤ 536870912) (hp : ∀ i, i < A.slots.size → ¬ 255 < cv A i) (hfr : 4 ≤ R.frames) (hlo : W + 65 ≤ R.locals) :
    Back l R p e below s args New1.yN len W (fun P a => a = #[.ref x, .ref b] ∧ P.U.heap = h ∧ P.cells + 1 ≤ R.cells ∧ P.slots + A.slots.size ≤ R.slots)
      (fun P _ v B => ∃ L, Q Z x A h v B.U.heap L ∧ B.locs = P.locs ++ L ∧ B.cells = P.cells + 1 ∧ B.slots = P.slots + A.slots.size) := by
  intro m meth c P g ig mk a X hg hsize hdg hW hn hp'
  obtain ⟨rfl, rfl, r1, r2⟩ := hp'
  have al : Z.vm.Alike P.U.vm := hZ.alike.trans X.warmed.alike
  obtain ⟨D, cfV, kV, iV, fV, hD, gV, stV, knV, obV, asV, slV⟩ := id V
  obtain ⟨D', cfC, kC, iC, fC, hD', gC, stC, -, -, asC, slC⟩ := id C
  cases hD.symm.trans hD'
  obtain ⟨D2, kD, e1, e2, e3, e4, e5⟩ := id E
  cases hD.symm.trans e1
  obtain ⟨c2, k2, i1, i2, i3, -⟩ := Cond.instantiable_spec wi
  cases e2.symm.trans i1
  cases e3.symm.trans i2
  obtain ⟨kU, u1, u2⟩ := al.2.2 _ _ e3
  have hB : Blank ST x D P.U := ⟨hD, ⟨knV, fun q hq => by rw [hq] at obV; cases obV⟩, by rw [al.findClass]; exact e2, kU, u1, by rw [u2]; exact i3, by rw [u2]; exact e5 i3⟩
  have F1 : Found ST "value" "[B" fV P.U := ⟨SBG.found_only al ⟨cfV, kV, iV, gV⟩, stV⟩
  have F2 : Found ST "coder" "B" fC P.U := ⟨SBG.found_only al ⟨cfC, kC, iC, gC⟩, stC⟩
  have hA : Ch b A P.U := ⟨⟨K.1, State.isArrayOf_alike al K.2.1, K.2.2, by omega⟩, hty⟩
  have hS : StaticIs P.U ST "COMPACT_STRINGS" "Z" (.int z) := by
    obtain ⟨cfS, iS, kS, fS, st, cS, t1, t2, t3, t4, t5, t6, t7⟩ := S
    exact StaticIs.there (s := { Z with heap := P.U.heap }) ⟨cfS, iS, kS, fS, st, cS, t1, t2, t3, t4, t5, (fun q => by rw [q] at t6; cases t6), t7⟩ al rfl
  obtain ⟨v, B, X', ⟨⟨hv, E', V', q1, q2, q3, q4, q5, q6, q7, q8, q9, q10, q11⟩, hl, hc, hs⟩, st⟩ := New1.pays x D fV fC b A z (tab_of (moved hZ hw)) hfr hlo m meth c P g ig mk _ X hg hsize hdg hW hn ⟨r1, r2, rfl, hB, F1, F2, hA, hS, hz, l0, l2, hp⟩
  have al' : Z.vm.Alike B.U.vm := hZ.alike.trans X'.warmed.alike
  have hsz : E'.slots.size = D.slots.size := by
    obtain ⟨-, -, -, kB, w1, w2, w3⟩ := q1
    obtain ⟨kB', y1, y2⟩ := al'.2.2 _ _ e3
    rw [q2.2.1] at w1
    cases w1.symm.trans y1
    rw [w3, e5 i3, y2]
  refine ⟨v, B, X', ⟨_, ⟨hv, ?_, ⟨by omega, fun y cy hy hn' => q10 y cy (by simpa using hn') hy, fun y cy hy => ?_⟩, q11, ⟨E', _, q1.1, by rw [q2.2.1]; exact e2, by rw [q2.2.1]; exact e3, by rw [q2.1]; exact obV, fun _ => by rw [hsz]; exact e5 i3⟩,
    ⟨E', cfV, kV, iV, fV, q1.1, gV, stV, by rw [q2.1]; exact knV, by rw [q2.1]; exact obV, by rw [q2.2.1]; exact asV, q3⟩, ⟨E', cfC, kC, iC, fC, q1.1, gC, stC, by rw [q2.1]; exact knV, by rw [q2.1]; exact obV, by rw [q2.2.1]; exact asC, q4⟩,
    ⟨V', ⟨q5.1, State.isArrayOf_alike al'.symm q5.2.1, q5.2.2.1⟩, q6, by rw [← al'.findClass]; exact q7, q8, fun j hj => by have := q9 j hj; rwa [Nat.zero_add] at this⟩, fun O n d w F n1 n2 => ?_⟩, hl, hc, hs⟩, st⟩
  · intro y hy
    simp only [List.mem_cons, List.not_mem_nil, or_false] at hy
    rcases hy with rfl | rfl <;> rfl
  · by_cases q : y = x
    · subst q
      cases hD.symm.trans hy
      exact ⟨E', q1.1, q2.2.1, q2.1, hsz⟩
    · exact ⟨cy, q10 y cy q hy, rfl, rfl, rfl⟩
  · obtain ⟨D3, cf, k, i, f, g1, g2, g3, g4, g5, g6, g7⟩ := F
    cases hD.symm.trans g1
    simp only [RoadKit.slotOf, g2, gV, gC, Option.map_some, Option.getD_some] at n1 n2
    exact ⟨E', cf, k, i, f, q1.1, g2, g3, by rw [q2.1]; exact g4, by rw [q2.1]; exact g5, by rw [q2.2.1]; exact g6, by rw [q2.2.2 f.slot (by simp [n1, n2])]; exact g7⟩
end StrChars.Road
namespace StrChars.Road
open Jvm Sem ClassFile Op Lib Jvm.Stand Jvm.Free Jvm.Free.XT
/-- WHAT COMES BACK, the byte[] as a list of values -/
def QA (Z : State) (x : Addr) (zn : Int32) (cs : List Int32) (h : Heap) (v : Option Value) (h' : Heap) (L : List Loc) : Prop := v = none ∧ (∀ y ∈ L, y.base = x) ∧ RoadKit.Keep h h' [x] ∧ h'.size = h.size + 1 ∧ RoadKit.Exa Z h' x ST ∧ RoadKit.Fld Z h' x ST "value" "[B" (.ref h.size) ∧ RoadKit.Fld Z h' x ST "coder" "B" (.int 0) ∧
  (∃ kb, Z.vm.findClass "[B" = some kb ∧ RoadKit.Arv Z h' h.size kb .byte zn (cs.map fun c => .int (lo8 c)) (.int 0)) ∧
  ∀ (O n d : String) (w : Value), RoadKit.Fld Z h x O n d w → RoadKit.slotOf Z O n d ≠ RoadKit.slotOf Z ST "value" "[B" → RoadKit.slotOf Z O n d ≠ RoadKit.slotOf Z ST "coder" "B" → RoadKit.Fld Z h' x O n d w
/-- **new String(chars) AT A CALL, THE ARRAYS AS LISTS**: the char[] at b holds cs, not empty, no char above 255 -/
theorem backArv {p : Program} {l : Launch} {e : Env} {R : Room} {s : State} {args : Array Value} {below : List Frame} {len W : Nat} {Z : State} {a0 : Array Value} {h : Heap} (hZ : Z.Warmed39 s.vm) (hw : ∀ d ∈ words, d.before a0 Z = true) {kI : Nat} (wi : (Jvm.Cond.instantiable ST kI).before a0 Z = true)
    {x b : Addr} {k : ClassId} {zn z : Int32} {cs : List Int32} {dv v0 c0 : Value} (E : RoadKit.Exa Z h x ST) (V : RoadKit.Fld Z h x ST "value" "[B" v0) (C : RoadKit.Fld Z h x ST "coder" "B" c0) (K : RoadKit.Arv Z h b k .char zn (cs.map Value.int) dv) (S : RoadKit.Sta Z h ST "COMPACT_STRINGS" "Z" (.int z)) (hz : ¬ z = 0)
    (hlen : zn.toNatClampNeg = cs.length) (h0 : 0 < cs.length) (hbig : cs.length ≤ 536870912) (hall : ∀ c ∈ cs, ¬ 255 < c) (hfr : 4 ≤ R.frames) (hlo : W + 65 ≤ R.locals) :
    Back l R p e below s args New1.yN len W (fun P a => a = #[.ref x, .ref b] ∧ P.U.heap = h ∧ P.cells + 1 ≤ R.cells ∧ P.slots + cs.length ≤ R.slots)
      (fun P _ v B => ∃ L, QA Z x zn cs h v B.U.heap L ∧ B.locs = P.locs ++ L ∧ B.cells = P.cells + 1 ∧ B.slots = P.slots + cs.length) := by
  obtain ⟨A, K1, K2, K3, K4, K5, K6⟩ := K
  have e : A.slots.size = cs.length := K3.trans hlen
  have hat : ∀ (i : Nat) (hi : i < cs.length), A.slots[i]? = some (.int cs[i]) := fun i hi => by rw [K5 i (by omega)]; simp [List.getD_eq_getElem?_getD, hi]
  have hcv : ∀ (i : Nat) (hi : i < cs.length), cv A i = cs[i] := fun i hi => by unfold cv; rw [hat i hi]
  have hty : Typed .char A := fun i v hv => by
    have hi : i < A.slots.size := (Array.getElem?_eq_some_iff.mp hv).1
    have q := K5 i hi
    rw [hv] at q
    rw [Option.some.inj q]
    exact K6 i hi
  refine Back.mono (back hZ hw wi E V C K1 hty S hz (by omega) (by omega) (fun i hi => by rw [hcv i (by omega)]; exact hall _ (List.getElem_mem _)) hfr hlo) (fun P a hp => ⟨hp.1, hp.2.1, hp.2.2.1, by rw [e]; exact hp.2.2.2⟩) (fun P a v B hp hq => ?_)
  obtain ⟨L, ⟨q1, q2, q3, q4, q5, q6, q7, ⟨V', v1, v2, v3, v4, v5⟩, q9⟩, hl, hc, hs⟩ := hq
  refine ⟨L, ⟨q1, q2, q3, q4, q5, q6, q7, ⟨V'.cls, v3, V', v1, rfl, by rw [v4, e, hlen], K4, fun i hi => ?_, fun i hi => ?_⟩, q9⟩, hl, hc, by rw [hs, e]⟩
  · have hi' : i < cs.length := by omega
    rw [v5 i (by omega), hcv i hi']; simp [List.getD_eq_getElem?_getD, hi']
  · have hi' : i < cs.length := by omega
    simp only [List.getD_eq_getElem?_getD, List.getElem?_map, List.getElem?_eq_getElem hi', Option.map_some, Option.getD_some]
    exact fits_lo8 _
end StrChars.Road
namespace StrChars.Road
open Jvm Sem ClassFile Op Lib Jvm.Stand Jvm.Free Jvm.Free.XT
/-- WHAT COMES BACK, in the writer's own shape -/
def QV (Z : State) (x : Addr) (N : Int32) (bs : List Int32) (h : Heap) (n0 : Nat) (v : Option Value) (h' : Heap) (L : List Loc) : Prop := v = none ∧ RoadKit.Fr n0 L ∧ RoadKit.Keep h h' [x] ∧ RoadKit.Exa Z h' x ST ∧ RoadKit.Fld Z h' x ST "coder" "B" (.int 0) ∧
  ∃ (t : Addr) (kb : ClassId), n0 ≤ t ∧ h.size ≤ t ∧ ¬ t = x ∧ RoadKit.Fld Z h' x ST "value" "[B" (.ref t) ∧ RoadKit.Arv Z h' t kb .byte N (bs.map Value.int) (.int 0)
/-- **new String(chars) AT A CALL, FOR THE WRITER**: a char[] of n known ints, each 0 to 255 -/
theorem backV {p : Program} {l : Launch} {e : Env} {R : Room} {s : State} {args : Array Value} {below : List Frame} {len W : Nat} {Z : State} {a0 : Array Value} {h : Heap} (hZ : Z.Warmed39 s.vm) (hw : ∀ d ∈ words, d.before a0 Z = true) {kI : Nat} (wi : (Jvm.Cond.instantiable ST kI).before a0 Z = true)
    {x b : Addr} {kC : ClassId} {cs bs : List Int32} {d v0 c0 : Value} {z N : Int32} {n n0 : Nat} (hx0 : n0 ≤ x) (hh0 : n0 ≤ h.size) (E : RoadKit.Exa Z h x ST) (V : RoadKit.Fld Z h x ST "value" "[B" v0) (C : RoadKit.Fld Z h x ST "coder" "B" c0) (K : RoadKit.Arv Z h b kC .char N (cs.map Value.int) d) (S : RoadKit.Sta Z h ST "COMPACT_STRINGS" "Z" (.int z)) (hz : ¬ z = 0)
    (hn : cs.length = n) (hN : N = Int32.ofNat n) (l0 : 0 < n) (l2 : n ≤ 4000) (hp : ∀ c ∈ cs, ¬ c < 0 ∧ ¬ (255 : Int32) < c) (hb : bs = cs.map (fun c => c.toInt8.toInt32)) (hfr : 4 ≤ R.frames) (hlo : W + 65 ≤ R.locals) :
    Back l R p e below s args (⟨"java/lang/String", "<init>", "([C)V"⟩ : MethodName) len W (fun P a => a = #[.ref x, .ref b] ∧ P.U.heap = h ∧ P.cells + 1 ≤ R.cells ∧ P.slots + n ≤ R.slots)
      (fun P _ v B => ∃ L, QV Z x N bs h n0 v B.U.heap L ∧ B.locs = P.locs ++ L ∧ B.cells = P.cells + 1 ∧ B.slots = P.slots + n) := by
  subst hn hN hb
  refine Back.mono (backArv hZ hw wi E V C K S hz (n32 (by omega)) l0 (by omega) (fun c hc => (hp c hc).2) hfr hlo) (fun P a hp => hp) (fun P a v B hp hq => ?_)
  obtain ⟨L, ⟨q1, q2, q3, q4, q5, q6, q7, ⟨kb, v1, v2⟩, q9⟩, hl, hc, hs⟩ := hq
  exact ⟨L, ⟨q1, fun y hy => by rw [q2 y hy]; exact hx0, q3, q5, q7, h.size, kb, hh0, Nat.le_refl _, Nat.ne_of_gt E.lt, q6, by rw [List.map_map]; exact v2⟩, hl, hc, hs⟩
end StrChars.Road
namespace StrChars
open Jvm Sem ClassFile Op Lib Jvm.Stand Jvm.Free.XT Jvm.Free.ALB Jvm.Free.JM Jvm.Free
open Jvm.Lib.Cold (StaticIs)
def hi8 (x : Int32) : Int32 := lo8 (x >>> ((8 : Int32) &&& 31))
/-- what StringUTF16.getChar makes of two bytes -/
def pairCh (u v : Int32) : Int32 := (((u &&& 255) <<< ((0 : Int32) &&& 31)) ||| ((v &&& 255) <<< ((8 : Int32) &&& 31))).toUInt32.toUInt16.toUInt32.toInt32
theorem shr0 (c : Int32) : c >>> ((0 : Int32) &&& 31) = c := by
  have e : ((0 : Int32) &&& 31) = 0 := by decide
  rw [e]
  apply Int32.toBitVec_inj.mp
  rw [Int32.toBitVec_shiftRight]
  have e1 : ((0 : Int32).toBitVec.smod 32) = 0#32 := by decide
  rw [e1, BitVec.sshiftRight_eq']
  exact BitVec.sshiftRight_zero
theorem lo8_and (x : Int32) : (lo8 x &&& 255).toBitVec.toNat = x.toBitVec.toNat % 256 := by
  have h : (lo8 x).toBitVec = (x.toBitVec.signExtend 8).signExtend 32 := by rw [lo8, Int8.toBitVec_toInt32, Int32.toBitVec_toInt8]
  rw [Int32.toBitVec_and, BitVec.toNat_and, h]
  have e : ((x.toBitVec.signExtend 8).signExtend 32).toNat % 256 = x.toBitVec.toNat % 256 := by
    rw [BitVec.toNat_signExtend]
    have hlt := x.toBitVec.isLt
    simp only [BitVec.toNat_setWidth, BitVec.toNat_signExtend]
    split <;> split <;> omega
  rw [← e]
  exact Nat.and_two_pow_sub_one_eq_mod _ 8
theorem pair_says {c : Int32} (h0 : ¬ c < 0) (h1 : ¬ 65535 < c) : pairCh (lo8 c) (hi8 c) = c := by
  rw [Int32.lt_iff_toInt_lt] at h0 h1
  have e0 : (0 : Int32).toInt = 0 := rfl
  have e1 : (65535 : Int32).toInt = 65535 := rfl
  have hc : c.toInt = c.toBitVec.toNat := by
    have := c.toBitVec.isLt
    have e : c.toInt = c.toBitVec.toInt := rfl
    rw [e] at h0 h1
    rw [e]
    rw [BitVec.toInt_eq_toNat_cond] at h0 h1 ⊢
    split at h0 <;> split <;> omega
  have hn : c.toBitVec.toNat < 65536 := by omega
  have a1 := lo8_and c
  have a2 : (hi8 c &&& 255).toBitVec.toNat = c.toBitVec.toNat / 256 := by
    rw [hi8, lo8_and]
    have e : ((8 : Int32) &&& 31) = 8 := by decide
    rw [e, Int32.toBitVec_shiftRight]
    have e2 : ((8 : Int32).toBitVec.smod 32) = 8#32 := by decide
    rw [e2, BitVec.sshiftRight_eq', BitVec.toNat_sshiftRight_of_msb_false (by rw [BitVec.msb_eq_false_iff_two_mul_lt]; omega)]
    show c.toBitVec.toNat >>> 8 % 256 = _
    rw [Nat.shiftRight_eq_div_pow]
    omega
  unfold pairCh
  apply Int32.toBitVec_inj.mp
  apply BitVec.eq_of_toNat_eq
  have f0 : ((0 : Int32) &&& 31) = 0 := by decide
  have f8 : ((8 : Int32) &&& 31) = 8 := by decide
  rw [f0, f8]
  have g : (((lo8 c &&& 255) <<< (0 : Int32)) ||| ((hi8 c &&& 255) <<< (8 : Int32))).toBitVec.toNat = c.toBitVec.toNat := by
    rw [Int32.toBitVec_or, Int32.toBitVec_shiftLeft, Int32.toBitVec_shiftLeft]
    have s0 : ((0 : Int32).toBitVec.smod 32) = 0#32 := by decide
    have s8 : ((8 : Int32).toBitVec.smod 32) = 8#32 := by decide
    rw [s0, s8, BitVec.toNat_or]
    simp only [BitVec.shiftLeft_eq', BitVec.toNat_shiftLeft, a1, a2]
    show (c.toBitVec.toNat % 256) <<< 0 % 2 ^ 32 ||| (c.toBitVec.toNat / 256) <<< 8 % 2 ^ 32 = _
    rw [Nat.shiftLeft_zero, Nat.mod_eq_of_lt (show c.toBitVec.toNat % 256 < 2 ^ 32 by omega), Nat.mod_eq_of_lt (show (c.toBitVec.toNat / 256) <<< 8 < 2 ^ 32 by rw [Nat.shiftLeft_eq]; omega), Nat.or_comm, ← Nat.shiftLeft_add_eq_or_of_lt (by omega), Nat.shiftLeft_eq]
    omega
  show BitVec.toNat (((((lo8 c &&& 255) <<< (0 : Int32)) ||| ((hi8 c &&& 255) <<< (8 : Int32))).toBitVec.setWidth 16).setWidth 32) = _
  rw [BitVec.toNat_setWidth, BitVec.toNat_setWidth, g]
  omega
end StrChars
namespace StrChars
open Jvm Sem ClassFile Op Lib Jvm.Stand Jvm.Free.XT Jvm.Free.ALB Jvm.Free.JM Jvm.Free
open Jvm.Lib.Cold (StaticIs)
theorem shr1 {n : Nat} (h : 2 * n < 2 ^ 31) : Int32.ofNat (2 * n) >>> ((1 : Int32) &&& 31) = Int32.ofNat n := by
  have e : ((1 : Int32) &&& 31) = 1 := by decide
  rw [e]
  apply Int32.toBitVec_inj.mp
  rw [Int32.toBitVec_shiftRight]
  have e1 : ((1 : Int32).toBitVec.smod 32) = 1#32 := by decide
  have hm : (BitVec.ofNat 32 (2 * n)).toNat = 2 * n := by rw [BitVec.toNat_ofNat, Nat.mod_eq_of_lt (by omega)]
  rw [e1, BitVec.sshiftRight_eq']
  apply BitVec.eq_of_toNat_eq
  show ((BitVec.ofNat 32 (2 * n)).sshiftRight 1).toNat = (BitVec.ofNat 32 n).toNat
  rw [BitVec.toNat_sshiftRight_of_msb_false (by rw [BitVec.msb_eq_false_iff_two_mul_lt, hm]; omega), hm, BitVec.toNat_ofNat, Nat.shiftRight_eq_div_pow]
  omega
/-- charAt's cast of a byte read back -/
def chr8 (u : Int32) : Int32 := (u &&& 255).toUInt32.toUInt16.toUInt32.toInt32
theorem chr8_lo8 {c : Int32} (h0 : ¬ c < 0) (h1 : ¬ 255 < c) : chr8 (lo8 c) = c := by
  have t : ∀ k : Fin 256, (Int32.ofNat k.val).toUInt32.toUInt16.toUInt32.toInt32 = Int32.ofNat k.val := by decide +kernel
  unfold chr8
  rw [lo8_mask h0 h1]
  rw [Int32.lt_iff_toInt_lt] at h0 h1
  have e0 : (0 : Int32).toInt = 0 := rfl
  have e1 : (255 : Int32).toInt = 255 := rfl
  obtain ⟨k, hk⟩ : ∃ k : Nat, c.toInt = k := ⟨c.toInt.toNat, by omega⟩
  have hx : c = Int32.ofNat k := Int32.toInt_inj.mp (by rw [hk, Int32.toInt_ofNat_small (by omega)])
  rw [hx]
  exact t ⟨k, by omega⟩
theorem narrow_ch {c : Int32} (h0 : ¬ c < 0) (h1 : ¬ 65535 < c) : narrow .char (.int c) = .int c := by
  have q : narrow .char (.int (pairCh (lo8 c) (hi8 c))) = .int (pairCh (lo8 c) (hi8 c)) := narrow_c _
  rwa [pair_says h0 h1] at q
/-- the array's cell V codes the n chars f 0 .. f (n - 1) by the coder cd, as the JDK does: coder 1 just where some char is above 255 -/
def Cod (cd : Int32) (n : Nat) (f : Nat → Int32) (V : Cell) : Prop := (cd = 0 ∧ V.slots.size = n ∧ ∀ j, j < n → V.slots[j]? = some (.int (lo8 (f j))) ∧ ¬ 255 < f j) ∨ (cd = 1 ∧ V.slots.size = 2 * n ∧ (∀ j, j < n → V.slots[2 * j]? = some (.int (lo8 (f j))) ∧ V.slots[2 * j + 1]? = some (.int (hi8 (f j)))) ∧ ∃ j, j < n ∧ 255 < f j)
theorem Cod.cd {cd : Int32} {n : Nat} {f : Nat → Int32} {V : Cell} (h : Cod cd n f V) : cd = 0 ∨ cd = 1 := h.imp (fun q => q.1) fun q => q.1
theorem Cod.len {cd : Int32} {n : Nat} {f : Nat → Int32} {V : Cell} (h : Cod cd n f V) (hs : V.slots.size < 2 ^ 31) : Int32.ofNat V.slots.size >>> (cd &&& 31) = Int32.ofNat n := by
  rcases h with ⟨rfl, h, -⟩ | ⟨rfl, h, -⟩
  · rw [shr0, h]
  · rw [h, shr1 (by omega)]
/-- **x is a String of the n chars f 0 .. f (n - 1)**, Latin-1 or UTF-16; its array at t has the cell V -/
def Txt (x t : Addr) (V : Cell) (cd : Int32) (n : Nat) (f : Nat → Int32) (U : State) : Prop := Exact "java/lang/String" x U ∧ Has x "java/lang/String" "value" "[B" (.ref t) U ∧ Has x "java/lang/String" "coder" "B" (.int cd) U ∧ XT.Arr .byte t V U ∧ Cod cd n f V ∧ ∀ j, j < n → ¬ f j < 0 ∧ ¬ 65535 < f j
theorem Txt.mv {x t : Addr} {V : Cell} {cd : Int32} {n : Nat} {f : Nat → Int32} {U U' : State} (h : Txt x t V cd n f U) (hal : U.vm.Alike U'.vm) (hh : U'.heap = U.heap) : Txt x t V cd n f U' := ⟨h.1.mv hal hh, h.2.1.mv hal hh, h.2.2.1.mv hal hh, h.2.2.2.1.mv hal hh, h.2.2.2.2⟩
namespace Cdr
def yN : MethodName := ⟨"java/lang/String", "coder", "()B"⟩
abbrev yB : ByteArray := jdk_42_method_152_code
theorem d0 : decode yB 0 = .ok (.getstatic 38, 3) := by decide +kernel
theorem d3 : decode yB 3 = .ok (.ifCond (.eq) 10, 3) := by decide +kernel
theorem d6 : decode yB 6 = .ok (.aload_n 0, 1) := by decide +kernel
theorem d7 : decode yB 7 = .ok (.getfield 15, 3) := by decide +kernel
theorem d10 : decode yB 10 = .ok (.goto 4, 3) := by decide +kernel
theorem d14 : decode yB 14 = .ok (.ireturn, 1) := by decide +kernel
def site : List Cond := [.fieldLink "java/lang/String" 38 "java/lang/String" "COMPACT_STRINGS" "Z", .fieldLink "java/lang/String" 15 "java/lang/String" "coder" "B"]
def tab : Cond := tabOf yN yB 1 (some .byte) site
def P (x : Addr) (cd z : Int32) (args : Array Value) (s : State) : Prop := args = #[.ref x] ∧ Has x "java/lang/String" "coder" "B" (.int cd) s ∧ (cd = 0 ∨ cd = 1) ∧ StaticIs s "java/lang/String" "COMPACT_STRINGS" "Z" (.int z) ∧ ¬ z = 0
def E (cd : Int32) (r : Option Value) (s u : State) : Prop := XT.PureE (some (.int cd)) r s u
theorem law (l : Launch) (x : Addr) (cd z : Int32) : Law l yN 1 0 0 0 yB 1 (some .byte) site (P x cd z) (E cd) [] 0 0 := by
  refine Law.of_walk (plainFor_of_name (by decide +kernel)) (by decide +kernel) (by decide +kernel) (by decide) (fun _ _ h => by rw [h.1]; rfl) (fun _ U U' hal hh h => ⟨h.1, h.2.1.mv hal hh, h.2.2.1, h.2.2.2.1.there hal hh, h.2.2.2.2⟩) (fun r U U' V V' h1 hal h2 h => XT.PureE.mv r U U' V V' h1 hal h2 h) ?_
  intro p e s m args below meth c s₁ X0 hexec hbytes hml hret hlk hnm hown hh0 W hP
  obtain ⟨rfl, hx, hc, s1, hz⟩ := hP
  have c1 : Steps p.tables e below (s₁.setTop (entryFrame m #[.ref x] 1)) (s₁.setTop (mkF m 0 #[.val (.ref x)] [])) := entry rfl
  obtain ⟨T2, X2, q2, st2⟩ := X0.sget hexec hown (wk W (.fieldLink "java/lang/String" 38 "java/lang/String" "COMPACT_STRINGS" "Z")) s1 (fun _ _ h => by rw [hh0]; exact h) (g := (mkF m 0 #[.val (.ref x)] [])) rfl (hb hbytes d0)
  have hh2 := q2.trans hh0
  have c3 : Steps p.tables e below (s₁.setTop (entryFrame m #[.ref x] 1)) (T2.setTop (mkF m 7 #[.val (.ref x)] [.ref x])) := (c1.trans (st2 _ (Steps.refl _))).trans (by
    refine XS.ifNo X2.here hexec rfl (hb hbytes d3) rfl (i0_eq_f hz) ?_
    refine XS.aloadN X2.here hexec rfl (hb hbytes d6) rfl rfl ?_
    exact Steps.refl _)
  obtain ⟨T4, X4, q4, st4⟩ := X2.hget hexec hown (wk W (.fieldLink "java/lang/String" 15 "java/lang/String" "coder" "B")) (hx.mv X2.warmed.alike hh2) (g := (mkF m 7 #[.val (.ref x)] [.ref x])) rfl (rest := []) rfl (hb hbytes d7)
  have c5 : Steps p.tables e below (s₁.setTop (entryFrame m #[.ref x] 1)) (T4.setTop (mkF m 14 #[.val (.ref x)] [.int cd])) := (c3.trans (st4 _ (Steps.refl _))).trans (by
    refine XS.goto X4.here hexec rfl (pc0 := 10) rfl (hb hbytes d10) (by decide) rfl ?_
    exact Steps.refl _)
  exact ⟨T4, some (.int cd), _, _, _, X4, rfl, rfl, rfl, (fun h => by cases h), ⟨rfl, q4.trans hh2⟩, fun fs hl => c5.trans (X4.ireturnOut hexec hret (by rcases hc with rfl | rfl <;> rfl) (Or.inr (Or.inr (Or.inl rfl))) (hb hbytes d14) hl)⟩
end Cdr
namespace Len
def yN : MethodName := ⟨"java/lang/String", "length", "()I"⟩
abbrev yB : ByteArray := jdk_42_method_54_code
theorem d0 : decode yB 0 = .ok (.aload_n 0, 1) := by decide +kernel
theorem d1 : decode yB 1 = .ok (.getfield 9, 3) := by decide +kernel
theorem d4 : decode yB 4 = .ok (.arraylength, 1) := by decide +kernel
theorem d5 : decode yB 5 = .ok (.aload_n 0, 1) := by decide +kernel
theorem d6 : decode yB 6 = .ok (.invokevirtual 335, 3) := by decide +kernel
theorem d9 : decode yB 9 = .ok (.ishr, 1) := by decide +kernel
theorem d10 : decode yB 10 = .ok (.ireturn, 1) := by decide +kernel
def site : List Cond := [.fieldLink "java/lang/String" 9 "java/lang/String" "value" "[B", Cdr.tab] ++ virtW "java/lang/String" 335 "java/lang/String" Cdr.yN Cdr.yN
def tab : Cond := tabOf yN yB 1 (some .int) site
def P (x t : Addr) (V : Cell) (cd : Int32) (n : Nat) (f : Nat → Int32) (z : Int32) (args : Array Value) (s : State) : Prop := args = #[.ref x] ∧ Txt x t V cd n f s ∧ StaticIs s "java/lang/String" "COMPACT_STRINGS" "Z" (.int z) ∧ ¬ z = 0
def E (n : Nat) (r : Option Value) (s u : State) : Prop := XT.PureE (some (.int (Int32.ofNat n))) r s u
/-- length() of a String of n chars, in either coding -/
theorem law (l : Launch) (x t : Addr) (V : Cell) (cd : Int32) (n : Nat) (f : Nat → Int32) (z : Int32) : Law l yN 1 0 1 13 yB 1 (some .int) site (P x t V cd n f z) (E n) [] 0 0 := by
  refine Law.of_walk (plainFor_of_name (by decide +kernel)) (by decide +kernel) (by decide +kernel) (by decide) (fun _ _ h => by rw [h.1]; rfl) (fun _ U U' hal hh h => ⟨h.1, h.2.1.mv hal hh, h.2.2.1.there hal hh, h.2.2.2⟩) (fun r U U' V V' h1 hal h2 h => XT.PureE.mv r U U' V V' h1 hal h2 h) ?_
  intro p e s m args below meth c s₁ X0 hexec hbytes hml hret hlk hnm hown hh0 W hP
  obtain ⟨rfl, hx, s1, hz⟩ := hP
  have v31 := hx.2.2.2.1.2.2.2
  have c1 : Steps p.tables e below (s₁.setTop (entryFrame m #[.ref x] 1)) (s₁.setTop (mkF m 1 #[.val (.ref x)] [.ref x])) := Steps.trans (entry rfl) (by
    show Steps p.tables e below (s₁.setTop (mkF m 0 #[.val (.ref x)] [])) _
    refine XS.aloadN X0.here hexec rfl (hb hbytes d0) rfl rfl ?_
    exact Steps.refl _)
  obtain ⟨T2, X2, q2, st2⟩ := X0.hget hexec hown (wk W (.fieldLink "java/lang/String" 9 "java/lang/String" "value" "[B")) (hx.mv X0.warmed.alike hh0).2.1 (g := (mkF m 1 #[.val (.ref x)] [.ref x])) rfl (rest := []) rfl (hb hbytes d1)
  have hh2 := q2.trans hh0
  have hx2 := hx.mv X2.warmed.alike hh2
  have c3 : Steps p.tables e below (s₁.setTop (entryFrame m #[.ref x] 1)) (T2.setTop (mkF m 6 #[.val (.ref x)] [.ref x, .int (Int32.ofNat V.slots.size)])) := (c1.trans (st2 _ (Steps.refl _))).trans (by
    refine X2.alen hexec hx2.2.2.2.1 rfl rfl (hb hbytes d4) ?_
    refine XS.aloadN X2.here hexec rfl (hb hbytes d5) rfl rfl ?_
    exact Steps.refl _)
  obtain ⟨v4, T4, X4, E4, g4⟩ := X2.callV hexec (Cdr.law l x cd z) hown (wks W (virtW "java/lang/String" 335 "java/lang/String" Cdr.yN Cdr.yN)) rfl (by decide) (wk W Cdr.tab) (W := 1) (Nat.le_of_ble_eq_true rfl) (Nat.le_of_ble_eq_true rfl) (Nat.le_refl _) (Nat.le_refl _) (hx2.1.fc X2.warmed.alike) hx2.1.is (g := (mkF m 6 #[.val (.ref x)] [.ref x, .int (Int32.ofNat V.slots.size)])) rfl (by rw [hml]; rfl) c3 (argsL := []) (rest := [.int (Int32.ofNat V.slots.size)]) rfl rfl (by show 2 * 0 + (1 + 0) ≤ _; decide) (hb hbytes d6) (⟨rfl, hx2.2.2.1, hx.2.2.2.2.1.cd, s1.there X2.warmed.alike hh2, hz⟩)
  obtain ⟨rfl, q4⟩ := E4
  have c5 : Steps p.tables e below (s₁.setTop (entryFrame m #[.ref x] 1)) (T4.setTop (mkF m 10 #[.val (.ref x)] [.int (Int32.ofNat V.slots.size >>> (cd &&& 31))])) := Steps.trans g4 (by
    refine ishr X4.here hexec rfl (hb hbytes d9) rfl ?_
    exact Steps.refl _)
  rw [hx.2.2.2.2.1.len v31] at c5
  exact ⟨T4, some (.int (Int32.ofNat n)), _, _, _, X4, rfl, rfl, rfl, (fun h => by cases h), ⟨rfl, q4.trans hh2⟩, fun fs hl => c5.trans (X4.ireturnOut hexec hret rfl (Or.inl rfl) (hb hbytes d10) hl)⟩
theorem pays {l : Launch} {R : Room} {p : Program} {e : Env} {below : List Frame} {s : State} {sargs : Array Value} {len W : Nat} (x t : Addr) (V : Cell) (cd : Int32) (n : Nat) (f : Nat → Int32) (z : Int32) (htab : tab.before sargs s = true) (hfr : 2 ≤ R.frames) (hlo : W + 25 ≤ R.locals) :
    Back l R p e below s sargs yN len W (fun A₁ a₁ => A₁.cells + 0 ≤ R.cells ∧ A₁.slots + 0 ≤ R.slots ∧ P x t V cd n f z a₁ A₁.U) (fun A₁ _ v₁ B₁ => E n v₁ A₁.U B₁.U ∧ B₁.locs = A₁.locs ++ [] ∧ B₁.cells = A₁.cells + 0 ∧ B₁.slots = A₁.slots + 0) :=
  (law l x t V cd n f z).pays htab hfr (by omega)
end Len
namespace IsL
def yN : MethodName := ⟨"java/lang/String", "isLatin1", "()Z"⟩
abbrev yB : ByteArray := jdk_42_method_154_code
theorem d0 : decode yB 0 = .ok (.getstatic 38, 3) := by decide +kernel
theorem d3 : decode yB 3 = .ok (.ifCond (.eq) 14, 3) := by decide +kernel
theorem d6 : decode yB 6 = .ok (.aload_n 0, 1) := by decide +kernel
theorem d7 : decode yB 7 = .ok (.getfield 15, 3) := by decide +kernel
theorem d10 : decode yB 10 = .ok (.ifCond (.ne) 7, 3) := by decide +kernel
theorem d13 : decode yB 13 = .ok (.iconst 1, 1) := by decide +kernel
theorem d14 : decode yB 14 = .ok (.goto 4, 3) := by decide +kernel
theorem d17 : decode yB 17 = .ok (.iconst 0, 1) := by decide +kernel
theorem d18 : decode yB 18 = .ok (.ireturn, 1) := by decide +kernel
def site : List Cond := [.fieldLink "java/lang/String" 38 "java/lang/String" "COMPACT_STRINGS" "Z", .fieldLink "java/lang/String" 15 "java/lang/String" "coder" "B"]
def tab : Cond := tabOf yN yB 1 (some .boolean) site
def P (x : Addr) (cd z : Int32) (args : Array Value) (s : State) : Prop := args = #[.ref x] ∧ Has x "java/lang/String" "coder" "B" (.int cd) s ∧ (cd = 0 ∨ cd = 1) ∧ StaticIs s "java/lang/String" "COMPACT_STRINGS" "Z" (.int z) ∧ ¬ z = 0
def E (cd : Int32) (r : Option Value) (s u : State) : Prop := XT.PureE (some (.int (1 - cd))) r s u
theorem law (l : Launch) (x : Addr) (cd z : Int32) : Law l yN 1 0 0 0 yB 1 (some .boolean) site (P x cd z) (E cd) [] 0 0 := by
  refine Law.of_walk (plainFor_of_name (by decide +kernel)) (by decide +kernel) (by decide +kernel) (by decide) (fun _ _ h => by rw [h.1]; rfl) (fun _ U U' hal hh h => ⟨h.1, h.2.1.mv hal hh, h.2.2.1, h.2.2.2.1.there hal hh, h.2.2.2.2⟩) (fun r U U' V V' h1 hal h2 h => XT.PureE.mv r U U' V V' h1 hal h2 h) ?_
  intro p e s m args below meth c s₁ X0 hexec hbytes hml hret hlk hnm hown hh0 W hP
  obtain ⟨rfl, hx, hc, s1, hz⟩ := hP
  have c1 : Steps p.tables e below (s₁.setTop (entryFrame m #[.ref x] 1)) (s₁.setTop (mkF m 0 #[.val (.ref x)] [])) := entry rfl
  obtain ⟨T2, X2, q2, st2⟩ := X0.sget hexec hown (wk W (.fieldLink "java/lang/String" 38 "java/lang/String" "COMPACT_STRINGS" "Z")) s1 (fun _ _ h => by rw [hh0]; exact h) (g := (mkF m 0 #[.val (.ref x)] [])) rfl (hb hbytes d0)
  have hh2 := q2.trans hh0
  have c3 : Steps p.tables e below (s₁.setTop (entryFrame m #[.ref x] 1)) (T2.setTop (mkF m 7 #[.val (.ref x)] [.ref x])) := (c1.trans (st2 _ (Steps.refl _))).trans (by
    refine XS.ifNo X2.here hexec rfl (hb hbytes d3) rfl (i0_eq_f hz) ?_
    refine XS.aloadN X2.here hexec rfl (hb hbytes d6) rfl rfl ?_
    exact Steps.refl _)
  obtain ⟨T4, X4, q4, st4⟩ := X2.hget hexec hown (wk W (.fieldLink "java/lang/String" 15 "java/lang/String" "coder" "B")) (hx.mv X2.warmed.alike hh2) (g := (mkF m 7 #[.val (.ref x)] [.ref x])) rfl (rest := []) rfl (hb hbytes d7)
  have c5 : Steps p.tables e below (s₁.setTop (entryFrame m #[.ref x] 1)) (T4.setTop (mkF m 10 #[.val (.ref x)] [.int cd])) := c3.trans (st4 _ (Steps.refl _))
  have c6 : Steps p.tables e below (s₁.setTop (entryFrame m #[.ref x] 1)) (T4.setTop (mkF m 18 #[.val (.ref x)] [.int (1 - cd)])) := by
    rcases hc with rfl | rfl
    · exact c5.trans (by
        refine XS.ifNo X4.here hexec rfl (hb hbytes d10) rfl (i0_ne_f rfl) ?_
        refine iconstV X4.here hexec rfl 1 (hb hbytes d13) (by decide) ?_
        refine XS.goto X4.here hexec rfl (pc0 := 14) rfl (hb hbytes d14) (by decide) rfl ?_
        exact Steps.refl _)
    · exact c5.trans (by
        refine XS.ifYes X4.here hexec rfl (pc0 := 10) rfl (hb hbytes d10) rfl (i0_ne_t (by decide)) (by decide) rfl ?_
        refine iconstV X4.here hexec rfl 0 (hb hbytes d17) (by decide) ?_
        exact Steps.refl _)
  exact ⟨T4, some (.int (1 - cd)), _, _, _, X4, rfl, rfl, rfl, (fun h => by cases h), ⟨rfl, q4.trans hh2⟩, fun fs hl => c6.trans (X4.ireturnOut hexec hret (by rcases hc with rfl | rfl <;> rfl) (Or.inr (Or.inl rfl)) (hb hbytes d18) hl)⟩
end IsL
namespace LChA
def yN : MethodName := ⟨"java/lang/StringLatin1", "charAt", "([BI)C"⟩
abbrev yB : ByteArray := jdk_43_method_2_code
theorem d0 : decode yB 0 = .ok (.iload_n 1, 1) := by decide +kernel
theorem d1 : decode yB 1 = .ok (.aload_n 0, 1) := by decide +kernel
theorem d2 : decode yB 2 = .ok (.arraylength, 1) := by decide +kernel
theorem d3 : decode yB 3 = .ok (.invokestatic 9, 3) := by decide +kernel
theorem d6 : decode yB 6 = .ok (.aload_n 0, 1) := by decide +kernel
theorem d7 : decode yB 7 = .ok (.iload_n 1, 1) := by decide +kernel
theorem d8 : decode yB 8 = .ok (.baload, 1) := by decide +kernel
theorem d9 : decode yB 9 = .ok (.sipush 255, 3) := by decide +kernel
theorem d12 : decode yB 12 = .ok (.iand, 1) := by decide +kernel
theorem d13 : decode yB 13 = .ok (.i2c, 1) := by decide +kernel
theorem d14 : decode yB 14 = .ok (.ireturn, 1) := by decide +kernel
def site : List Cond := [JO.Str_checkIndex.tab] ++ staticW "java/lang/StringLatin1" 9 JO.Str_checkIndex.yN
def tab : Cond := tabOf yN yB 2 (some .char) site
def P (t : Addr) (V : Cell) (i : Nat) (u : Int32) (fm : Value) (args : Array Value) (s : State) : Prop := args = #[.ref t, .int (Int32.ofNat i)] ∧ XT.Arr .byte t V s ∧ V.slots[i]? = some (.int u) ∧ (StaticIs s "jdk/internal/util/Preconditions" "SIOOBE_FORMATTER" "Ljava/util/function/BiFunction;" fm ∧ fm.isRef = true)
def E (u : Int32) (r : Option Value) (s w : State) : Prop := XT.PureE (some (.int (chr8 u))) r s w
theorem law (l : Launch) (t : Addr) (V : Cell) (i : Nat) (u : Int32) (fm : Value) : Law l yN 2 2 2 27 yB 2 (some .char) site (P t V i u fm) (E u) [] 0 0 := by
  refine Law.of_walk (plainFor_of_name (by decide +kernel)) (by decide +kernel) (by decide +kernel) (by decide) (fun _ _ h => by rw [h.1]; rfl) (fun _ U U' hal hh h => ⟨h.1, h.2.1.mv hal hh, h.2.2.1, h.2.2.2.1.there hal hh, h.2.2.2.2⟩) (fun r U U' V V' h1 hal h2 h => XT.PureE.mv r U U' V V' h1 hal h2 h) ?_
  intro p e s m args below meth c s₁ X0 hexec hbytes hml hret hlk hnm hown hh0 W hP
  obtain ⟨rfl, hV, hu, s1, rf⟩ := hP
  have v31 := hV.2.2.2
  have hi : i < V.slots.size := (Array.getElem?_eq_some_iff.mp hu).1
  have c1 : Steps p.tables e below (s₁.setTop (entryFrame m #[.ref t, .int (Int32.ofNat i)] 2)) (s₁.setTop (mkF m 0 #[.val (.ref t), .val (.int (Int32.ofNat i))] [])) := entry rfl
  have c2 : Steps p.tables e below (s₁.setTop (entryFrame m #[.ref t, .int (Int32.ofNat i)] 2)) (s₁.setTop (mkF m 3 #[.val (.ref t), .val (.int (Int32.ofNat i))] [.int (Int32.ofNat V.slots.size), .int (Int32.ofNat i)])) := c1.trans (by
    refine XS.iloadN X0.here hexec rfl (hb hbytes d0) rfl ?_
    refine XS.aloadN X0.here hexec rfl (hb hbytes d1) rfl rfl ?_
    refine X0.alen hexec (hV.mv X0.warmed.alike hh0) rfl rfl (hb hbytes d2) ?_
    exact Steps.refl _)
  obtain ⟨v3, T3, X3, E3, g3⟩ := X0.callS hexec (JO.Str_checkIndex.law l (Int32.ofNat i) (Int32.ofNat V.slots.size) fm) hown (wks W (staticW "java/lang/StringLatin1" 9 JO.Str_checkIndex.yN)) (wk W JO.Str_checkIndex.tab) (W := 0) (Nat.le_of_ble_eq_true rfl) (Nat.le_of_ble_eq_true rfl) (Nat.le_refl _) (Nat.le_refl _) (g := (mkF m 3 #[.val (.ref t), .val (.int (Int32.ofNat i))] [.int (Int32.ofNat V.slots.size), .int (Int32.ofNat i)])) rfl (by rw [hml]; rfl) c2 (argsL := [.int (Int32.ofNat i), .int (Int32.ofNat V.slots.size)]) (rest := []) rfl rfl (by show 2 * 0 + 0 ≤ _; decide) (hb hbytes d3) (⟨rfl, rf, s1.there X0.warmed.alike hh0, Int32.ofNat_not_neg (by omega), lt32 v31 hi⟩)
  obtain ⟨rfl, q3⟩ := E3
  have hh3 := q3.trans hh0
  have c4 : Steps p.tables e below (s₁.setTop (entryFrame m #[.ref t, .int (Int32.ofNat i)] 2)) (T3.setTop (mkF m 14 #[.val (.ref t), .val (.int (Int32.ofNat i))] [.int (chr8 u)])) := Steps.trans g3 (by
    refine XS.aloadN X3.here hexec rfl (hb hbytes d6) rfl rfl ?_
    refine XS.iloadN X3.here hexec rfl (hb hbytes d7) rfl ?_
    refine X3.aget hexec (hV.mv X3.warmed.alike hh3) rfl hu rfl rfl (hb hbytes d8) ?_
    refine sipushV X3.here hexec rfl 255 (hb hbytes d9) (by decide) ?_
    refine XS.iand X3.here hexec rfl (hb hbytes d12) rfl ?_
    refine i2c X3.here hexec rfl (hb hbytes d13) rfl ?_
    exact Steps.refl _)
  exact ⟨T3, some (.int (chr8 u)), _, _, _, X3, rfl, rfl, rfl, (fun h => by cases h), ⟨rfl, hh3⟩, fun fs hl => c4.trans (X3.ireturnOut hexec hret (narrow_c _) (Or.inr (Or.inr (Or.inr (Or.inl rfl)))) (hb hbytes d14) hl)⟩
end LChA
end StrChars
namespace StrChars.Road
open Jvm Sem ClassFile Op Lib Jvm.Stand Jvm.Free Jvm.Free.XT
open Jvm.Lib.Cold (StaticIs)
theorem consq {a : Array Value} {s : State} {c : Jvm.Cond} {L : List Jvm.Cond} (h0 : c.before a s = true) (h : ∀ w ∈ L, w.before a s = true) : ∀ w ∈ c :: L, w.before a s = true := fun w hw => (List.mem_cons.mp hw).elim (fun e => e ▸ h0) (h w)
/-- the words of String.length(), either coding -/
abbrev wordsLen : List Jvm.Cond := [.code Len.yN Len.yB 1 (some .int), .initialized ST, .fieldLink ST 9 ST "value" "[B", .fieldLink ST 38 ST "COMPACT_STRINGS" "Z", .fieldLink ST 15 ST "coder" "B", .code Cdr.yN Cdr.yB 1 (some .byte), .methodLink ST 335 Cdr.yN, .declares Cdr.yN, .selects ST Cdr.yN Cdr.yN, .instanceMethod Cdr.yN]
theorem tabLen_of {a : Array Value} {s : State} (h : ∀ w ∈ wordsLen, w.before a s = true) : Len.tab.before a s = true := by
  have hc : Cdr.tab.before a s = true := unparts (wk h (.code Cdr.yN Cdr.yB 1 (some .byte))) (wks h (.initialized Cdr.yN.cls :: Cdr.site))
  have q := consq hc h
  exact unparts (wk q (.code Len.yN Len.yB 1 (some .int))) (wks q (.initialized Len.yN.cls :: Len.site))
theorem movedLen {Z s : State} {a0 args : Array Value} (hZ : Z.Warmed39 s.vm) (hw : ∀ d ∈ wordsLen, d.before a0 Z = true) : ∀ d ∈ wordsLen, d.before args s = true := fun d hd => by
  have q := hw d hd
  have t : ∀ d ∈ wordsLen, d = .arrayClass .byte ∨ (d.onTables && d.keepsFace) = true := by decide +kernel
  rcases t d hd with rfl | t
  · exact RoadKit.mvA hZ q
  · exact RoadKit.mv hZ q t
/-- the bytes of the chars cs, low before high -/
def wideBytes : List Int32 → List Value
  | [] => []
  | c :: cs => .int (lo8 c) :: .int (hi8 c) :: wideBytes cs
theorem wide_lo (d : Value) : ∀ (cs : List Int32) (j : Nat), j < cs.length → (wideBytes cs).getD (2 * j) d = .int (lo8 (cs.getD j 0))
  | [], j, h => absurd h (Nat.not_lt_zero j)
  | c :: cs, 0, _ => rfl
  | c :: cs, j + 1, h => by
    have q := wide_lo d cs j (by simpa using h)
    rw [show 2 * (j + 1) = 2 * j + 1 + 1 from by omega]
    simpa [wideBytes] using q
theorem wide_hi (d : Value) : ∀ (cs : List Int32) (j : Nat), j < cs.length → (wideBytes cs).getD (2 * j + 1) d = .int (hi8 (cs.getD j 0))
  | [], j, h => absurd h (Nat.not_lt_zero j)
  | c :: cs, 0, _ => rfl
  | c :: cs, j + 1, h => by
    have q := wide_hi d cs j (by simpa using h)
    rw [show 2 * (j + 1) + 1 = 2 * j + 1 + 1 + 1 from by omega]
    simpa [wideBytes] using q
theorem low_at (d : Value) (cs : List Int32) (j : Nat) (h : j < cs.length) : (cs.map fun c => Value.int (lo8 c)).getD j d = .int (lo8 (cs.getD j 0)) := by
  simp [List.getD_eq_getElem?_getD, h]
/-- an array of N2 bytes vs codes the chars cs by the coder cd -/
def CodA (cs : List Int32) (cd N2 : Int32) (vs : List Value) : Prop := (cd = 0 ∧ N2 = Int32.ofNat cs.length ∧ vs = (cs.map fun c => Value.int (lo8 c)) ∧ ∀ c ∈ cs, ¬ 255 < c) ∨ (cd = 1 ∧ N2 = Int32.ofNat (2 * cs.length) ∧ vs = wideBytes cs ∧ ∃ c ∈ cs, 255 < c)
theorem CodA.cod {cs : List Int32} {cd N2 : Int32} {vs : List Value} {V : Cell} (h : CodA cs cd N2 vs) (hn : 2 * cs.length < 2 ^ 31) (hs : V.slots.size = N2.toNatClampNeg) (hv : RoadKit.Has V vs (.int 0)) : Cod cd cs.length (fun j => cs.getD j 0) V := by
  rcases h with ⟨rfl, rfl, rfl, h⟩ | ⟨rfl, rfl, rfl, c, hc, hw⟩
  · rw [n32 (by omega)] at hs
    exact Or.inl ⟨rfl, hs, fun j hj => ⟨by rw [hv j (by omega), low_at _ _ _ hj], by
      have e : cs.getD j 0 = cs[j] := by simp [List.getD_eq_getElem?_getD, hj]
      show ¬ 255 < cs.getD j 0
      rw [e]; exact h _ (List.getElem_mem _)⟩⟩
  · rw [n32 (by omega)] at hs
    obtain ⟨j, hj, rfl⟩ := List.getElem_of_mem hc
    exact Or.inr ⟨rfl, hs, fun j hj => ⟨by rw [hv _ (by omega), wide_lo _ _ _ hj], by rw [hv _ (by omega), wide_hi _ _ _ hj]⟩, j, hj, by
      have e : cs.getD j 0 = cs[j] := by simp [List.getD_eq_getElem?_getD, hj]
      show 255 < cs.getD j 0
      rw [e]; exact hw⟩
/-- an object of exactly java/lang/String, its two fields found: as the laws ask it -/
theorem strObj {Z U : State} {a0 : Array Value} {kI : Nat} (wi : (Jvm.Cond.instantiable ST kI).before a0 Z = true) (al : Z.vm.Alike U.vm) {x : Addr} {v0 c0 : Value} (E : RoadKit.Exa Z U.heap x ST) (V : RoadKit.Fld Z U.heap x ST "value" "[B" v0) (C : RoadKit.Fld Z U.heap x ST "coder" "B" c0) :
    ∃ (D : Cell) (fV fC : Field), Blank ST x D U ∧ Found ST "value" "[B" fV U ∧ Found ST "coder" "B" fC U ∧ D.slots[fV.slot]? = some v0 ∧ D.slots[fC.slot]? = some c0 ∧ RoadKit.slotOf Z ST "value" "[B" = fV.slot ∧ RoadKit.slotOf Z ST "coder" "B" = fC.slot := by
  obtain ⟨D, cfV, kV, iV, fV, hD, gV, stV, knV, obV, asV, slV⟩ := V
  obtain ⟨D', cfC, kC, iC, fC, hD', gC, stC, -, -, asC, slC⟩ := C
  cases hD.symm.trans hD'
  obtain ⟨D2, kD, e1, e2, e3, e4, e5⟩ := E
  cases hD.symm.trans e1
  obtain ⟨c2, k2, i1, i2, i3, -⟩ := Cond.instantiable_spec wi
  cases e2.symm.trans i1
  cases e3.symm.trans i2
  obtain ⟨kU, u1, u2⟩ := al.2.2 _ _ e3
  exact ⟨D, fV, fC, ⟨hD, ⟨knV, fun q hq => by rw [hq] at obV; cases obV⟩, by rw [al.findClass]; exact e2, kU, u1, by rw [u2]; exact i3, by rw [u2]; exact e5 i3⟩, ⟨SBG.found_only al ⟨cfV, kV, iV, gV⟩, stV⟩, ⟨SBG.found_only al ⟨cfC, kC, iC, gC⟩, stC⟩, slV, slC, by simp [RoadKit.slotOf, gV], by simp [RoadKit.slotOf, gC]⟩
theorem sta_is {Z U : State} (al : Z.vm.Alike U.vm) {C n d : String} {v : Value} (S : RoadKit.Sta Z U.heap C n d v) : StaticIs U C n d v := by
  obtain ⟨cfS, iS, kS, fS, st, cS, t1, t2, t3, t4, t5, t6, t7⟩ := S
  exact StaticIs.there (s := { Z with heap := U.heap }) ⟨cfS, iS, kS, fS, st, cS, t1, t2, t3, t4, t5, (fun q => by rw [q] at t6; cases t6), t7⟩ al rfl
/-- **length() OF SUCH A STRING** -/
theorem lenW {p : Program} {l : Launch} {e : Env} {R : Room} {s : State} {args : Array Value} {below : List Frame} {len W : Nat} {Z : State} {a0 : Array Value} {h : Heap} (hZ : Z.Warmed39 s.vm) (hw : ∀ d ∈ wordsLen, d.before a0 Z = true) {kI : Nat} (wi : (Jvm.Cond.instantiable ST kI).before a0 Z = true)
    {x t : Addr} {kb : ClassId} {cs : List Int32} {cd N2 z : Int32} {vs : List Value} (E : RoadKit.Exa Z h x ST) (V : RoadKit.Fld Z h x ST "value" "[B" (.ref t)) (C : RoadKit.Fld Z h x ST "coder" "B" (.int cd)) (K : RoadKit.Arv Z h t kb .byte N2 vs (.int 0)) (hc : CodA cs cd N2 vs) (hb : ∀ c ∈ cs, ¬ c < 0 ∧ ¬ (65535 : Int32) < c)
    (S : RoadKit.Sta Z h ST "COMPACT_STRINGS" "Z" (.int z)) (hz : ¬ z = 0) (l2 : cs.length ≤ 4000) (hfr : 2 ≤ R.frames) (hlo : W + 25 ≤ R.locals) :
    Back l R p e below s args (⟨"java/lang/String", "length", "()I"⟩ : MethodName) len W (fun P a => a = #[.ref x] ∧ P.U.heap = h ∧ P.cells + 0 ≤ R.cells ∧ P.slots + 0 ≤ R.slots)
      (fun P _ v B => ∃ L, (v = some (.int (Int32.ofNat cs.length)) ∧ L = [] ∧ B.U.heap = h) ∧ B.locs = P.locs ++ L ∧ B.cells = P.cells + 0 ∧ B.slots = P.slots + 0) := by
  obtain ⟨A, K1, K2, K3, K4, K5, K6⟩ := K
  have hcod := hc.cod (by omega) K3 K5
  intro m meth c P g ig mk a X hg hsize hdg hW hn hp'
  obtain ⟨rfl, rfl, r1, r2⟩ := hp'
  have al : Z.vm.Alike P.U.vm := hZ.alike.trans X.warmed.alike
  obtain ⟨D, fV, fC, hB, F1, F2, g1, g2, -, -⟩ := strObj wi al E V C
  have hx : Txt x t A cd cs.length (fun j => cs.getD j 0) P.U := ⟨⟨_, hB.2.2.1, D, hB.1, rfl, by cases q : D.vm <;> first | rfl | exact absurd q (hB.2.1.2 _)⟩, Has.of hB F1 g1, Has.of hB F2 g2, ⟨K1.1, State.isArrayOf_alike al K1.2.1, K1.2.2, by rcases hcod with ⟨-, q, -⟩ | ⟨-, q, -⟩ <;> omega⟩, hcod, fun j hj => by
    have e : cs.getD j 0 = cs[j] := by simp [List.getD_eq_getElem?_getD, hj]
    show ¬ cs.getD j 0 < 0 ∧ ¬ 65535 < cs.getD j 0
    rw [e]; exact hb _ (List.getElem_mem _)⟩
  obtain ⟨v, B, X', ⟨⟨hv, hh⟩, hl, hk, hs⟩, st⟩ := Len.pays x t A cd cs.length (fun j => cs.getD j 0) z (tabLen_of (movedLen hZ hw)) hfr hlo m meth c P g ig mk _ X hg hsize hdg hW hn ⟨r1, r2, rfl, hx, sta_is al S, hz⟩
  exact ⟨v, B, X', ⟨[], ⟨hv, rfl, hh⟩, hl, hk, hs⟩, st⟩
end StrChars.Road
namespace StrChars
open Jvm Sem ClassFile Op Lib Jvm.Stand Jvm.Free.XT Jvm.Free.ALB Jvm.Free.JM Jvm.Free
open Jvm.Lib.Cold (StaticIs)
/-- what place i of a byte[]'s cell holds -/
def yv (A : Cell) (i : Nat) : Int32 := match A.slots[i]? with | some (.int x) => x | _ => 0
theorem yv_get {a : Addr} {A : Cell} {U : State} (h : XT.Arr .byte a A U) (ht : Typed .byte A) {i : Nat} (hi : i < A.slots.size) : A.slots[i]? = some (.int (yv A i)) := by
  have e := Array.getElem?_eq_getElem hi
  have f := ht i _ e
  unfold yv; rw [e]
  generalize A.slots[i] = v at f
  cases v <;> simp [fits] at f ⊢
/-- the two arrays are equal, place for place -/
def EqC (A B : Cell) : Prop := A.slots.size = B.slots.size ∧ ∀ i, i < A.slots.size → yv A i = yv B i
/-- a boolean that says whether p -/
def Says01 (q : Prop) (r : Option Value) (s u : State) : Prop := ∃ v : Int32, r = some (.int v) ∧ u.heap = s.heap ∧ ((v = 1 ∧ q) ∨ (v = 0 ∧ ¬ q))
theorem Says01.mv {q : Prop} : ∀ r (U U' V V' : State), U'.heap = U.heap → V.vm.Alike V'.vm → V'.heap = V.heap → Says01 q r U V → Says01 q r U' V' :=
  fun r U U' V V' h1 _ h2 ⟨v, a, b, c⟩ => ⟨v, a, by rw [h1, h2]; exact b, c⟩
namespace LEq
def yN : MethodName := ⟨"java/lang/StringLatin1", "equals", "([B[B)Z"⟩
abbrev yB : ByteArray := jdk_43_method_13_code
theorem d0 : decode yB 0 = .ok (.aload_n 0, 1) := by decide +kernel
theorem d1 : decode yB 1 = .ok (.arraylength, 1) := by decide +kernel
theorem d2 : decode yB 2 = .ok (.aload_n 1, 1) := by decide +kernel
theorem d3 : decode yB 3 = .ok (.arraylength, 1) := by decide +kernel
theorem d4 : decode yB 4 = .ok (.if_icmp (.ne) 30, 3) := by decide +kernel
theorem d7 : decode yB 7 = .ok (.iconst 0, 1) := by decide +kernel
theorem d8 : decode yB 8 = .ok (.istore_n 2, 1) := by decide +kernel
theorem d9 : decode yB 9 = .ok (.iload_n 2, 1) := by decide +kernel
theorem d10 : decode yB 10 = .ok (.aload_n 0, 1) := by decide +kernel
theorem d11 : decode yB 11 = .ok (.arraylength, 1) := by decide +kernel
theorem d12 : decode yB 12 = .ok (.if_icmp (.ge) 20, 3) := by decide +kernel
theorem d15 : decode yB 15 = .ok (.aload_n 0, 1) := by decide +kernel
theorem d16 : decode yB 16 = .ok (.iload_n 2, 1) := by decide +kernel
theorem d17 : decode yB 17 = .ok (.baload, 1) := by decide +kernel
theorem d18 : decode yB 18 = .ok (.aload_n 1, 1) := by decide +kernel
theorem d19 : decode yB 19 = .ok (.iload_n 2, 1) := by decide +kernel
theorem d20 : decode yB 20 = .ok (.baload, 1) := by decide +kernel
theorem d21 : decode yB 21 = .ok (.if_icmp (.eq) 5, 3) := by decide +kernel
theorem d24 : decode yB 24 = .ok (.iconst 0, 1) := by decide +kernel
theorem d25 : decode yB 25 = .ok (.ireturn, 1) := by decide +kernel
theorem d26 : decode yB 26 = .ok (.iinc 2 1, 3) := by decide +kernel
theorem d29 : decode yB 29 = .ok (.goto (-20), 3) := by decide +kernel
theorem d32 : decode yB 32 = .ok (.iconst 1, 1) := by decide +kernel
theorem d33 : decode yB 33 = .ok (.ireturn, 1) := by decide +kernel
theorem d34 : decode yB 34 = .ok (.iconst 0, 1) := by decide +kernel
theorem d35 : decode yB 35 = .ok (.ireturn, 1) := by decide +kernel
def site : List Cond := []
def tab : Cond := tabOf yN yB 3 (some .boolean) site
def P (a : Addr) (A : Cell) (b : Addr) (B : Cell) (args : Array Value) (s : State) : Prop := args = #[.ref a, .ref b] ∧ XT.Arr .byte a A s ∧ Typed .byte A ∧ XT.Arr .byte b B s ∧ Typed .byte B
/-- whether two byte[] are equal, place for place -/
theorem law (l : Launch) (a : Addr) (A : Cell) (b : Addr) (B : Cell) : Law l yN 2 2 0 0 yB 3 (some .boolean) site (P a A b B) (Says01 (EqC A B)) [] 0 0 := by
  refine Law.of_walk (plainFor_of_name (by decide +kernel)) (by decide +kernel) (by decide +kernel) (by decide) (fun _ _ h => by rw [h.1]; rfl) (fun _ U U' hal hh h => ⟨h.1, h.2.1.mv hal hh, h.2.2.1, h.2.2.2.1.mv hal hh, h.2.2.2.2⟩) (fun r U U' V V' h1 hal h2 h => Says01.mv r U U' V V' h1 hal h2 h) ?_
  intro p e s m args below meth c s₁ X0 hexec hbytes hml hret hlk hnm hown hh0 W hP
  obtain ⟨rfl, hA, tA, hB, tB⟩ := hP
  have a31 := hA.2.2.2
  have b31 := hB.2.2.2
  have hA0 := hA.mv X0.warmed.alike hh0
  have hB0 := hB.mv X0.warmed.alike hh0
  have c1 : Steps p.tables e below (s₁.setTop (entryFrame m #[.ref a, .ref b] 3)) (s₁.setTop (mkF m 0 #[.val (.ref a), .val (.ref b), .unset] [])) := entry rfl
  have c2 : Steps p.tables e below (s₁.setTop (entryFrame m #[.ref a, .ref b] 3)) (s₁.setTop (mkF m 4 #[.val (.ref a), .val (.ref b), .unset] [.int (Int32.ofNat B.slots.size), .int (Int32.ofNat A.slots.size)])) := c1.trans (by
    refine XS.aloadN X0.here hexec rfl (hb hbytes d0) rfl rfl ?_
    refine X0.alen hexec hA0 rfl rfl (hb hbytes d1) ?_
    refine XS.aloadN X0.here hexec rfl (hb hbytes d2) rfl rfl ?_
    refine X0.alen hexec hB0 rfl rfl (hb hbytes d3) ?_
    exact Steps.refl _)
  by_cases hs : A.slots.size = B.slots.size
  · have c3 : Steps p.tables e below (s₁.setTop (entryFrame m #[.ref a, .ref b] 3)) (s₁.setTop (mkF m 9 #[.val (.ref a), .val (.ref b), .val (.int 0)] [])) := c2.trans (by
      refine XS.icmpNo X0.here hexec rfl (hb hbytes d4) rfl (ii_ne_f (by rw [hs])) ?_
      refine iconstV X0.here hexec rfl 0 (hb hbytes d7) (by decide) ?_
      refine XS.istoreN X0.here hexec rfl (hb hbytes d8) rfl rfl ?_
      exact Steps.refl _)
    have loop : ∀ (r i : Nat), i + r = A.slots.size → (∀ j, j < i → yv A j = yv B j) → Steps p.tables e below (s₁.setTop (entryFrame m #[.ref a, .ref b] 3)) (s₁.setTop (mkF m 9 #[.val (.ref a), .val (.ref b), .val (.int (Int32.ofNat i))] [])) → ∃ (pc : Nat) (Ls : Array Slot) (v : Int32), (pc = 25 ∨ pc = 33) ∧ ((v = 1 ∧ EqC A B) ∨ (v = 0 ∧ ¬ EqC A B)) ∧ Steps p.tables e below (s₁.setTop (entryFrame m #[.ref a, .ref b] 3)) (s₁.setTop (mkF m pc Ls [.int v])) := by
      intro r
      induction r with
      | zero =>
        intro i hi he cl
        exact ⟨33, _, 1, Or.inr rfl, Or.inl ⟨rfl, hs, fun j hj => he j (by omega)⟩, cl.trans (by
          refine XS.iloadN X0.here hexec rfl (hb hbytes d9) rfl ?_
          refine XS.aloadN X0.here hexec rfl (hb hbytes d10) rfl rfl ?_
          refine X0.alen hexec hA0 rfl rfl (hb hbytes d11) ?_
          refine XS.icmpYes X0.here hexec rfl (pc0 := 12) rfl (hb hbytes d12) rfl (ii_ge_t (nlt32 (by omega) (by omega))) (by decide) rfl ?_
          refine iconstV X0.here hexec rfl 1 (hb hbytes d32) (by decide) ?_
          exact Steps.refl _)⟩
      | succ r ih =>
        intro i hi he cl
        have c4 : Steps p.tables e below (s₁.setTop (entryFrame m #[.ref a, .ref b] 3)) (s₁.setTop (mkF m 21 #[.val (.ref a), .val (.ref b), .val (.int (Int32.ofNat i))] [.int (yv B i), .int (yv A i)])) := cl.trans (by
          refine XS.iloadN X0.here hexec rfl (hb hbytes d9) rfl ?_
          refine XS.aloadN X0.here hexec rfl (hb hbytes d10) rfl rfl ?_
          refine X0.alen hexec hA0 rfl rfl (hb hbytes d11) ?_
          refine XS.icmpNo X0.here hexec rfl (hb hbytes d12) rfl (ii_ge_f (lt32 (by omega) (by omega))) ?_
          refine XS.aloadN X0.here hexec rfl (hb hbytes d15) rfl rfl ?_
          refine XS.iloadN X0.here hexec rfl (hb hbytes d16) rfl ?_
          refine X0.aget hexec hA0 rfl (yv_get hA tA (i := i) (by omega)) rfl rfl (hb hbytes d17) ?_
          refine XS.aloadN X0.here hexec rfl (hb hbytes d18) rfl rfl ?_
          refine XS.iloadN X0.here hexec rfl (hb hbytes d19) rfl ?_
          refine X0.aget hexec hB0 rfl (yv_get hB tB (i := i) (by omega)) rfl rfl (hb hbytes d20) ?_
          exact Steps.refl _)
        by_cases hv : yv A i = yv B i
        · have c5 : Steps p.tables e below (s₁.setTop (entryFrame m #[.ref a, .ref b] 3)) (s₁.setTop (mkF m 9 #[.val (.ref a), .val (.ref b), .val (.int (Int32.ofNat i + 1))] [])) := c4.trans (by
            refine XS.icmpYes X0.here hexec rfl (pc0 := 21) rfl (hb hbytes d21) rfl (ii_eq_t hv) (by decide) rfl ?_
            refine iincV X0.here hexec rfl 1 (hb hbytes d26) (by decide) rfl rfl ?_
            refine XS.goto X0.here hexec rfl (pc0 := 29) rfl (hb hbytes d29) (by decide) rfl ?_
            exact Steps.refl _)
          rw [succ32] at c5
          exact ih (i + 1) (by omega) (fun j hj => by
            by_cases e : j = i
            · rw [e]; exact hv
            · exact he j (by omega)) c5
        · exact ⟨25, _, 0, Or.inl rfl, Or.inr ⟨rfl, fun q => hv (q.2 i (by omega))⟩, c4.trans (by
            refine XS.icmpNo X0.here hexec rfl (hb hbytes d21) rfl (ii_eq_f hv) ?_
            refine iconstV X0.here hexec rfl 0 (hb hbytes d24) (by decide) ?_
            exact Steps.refl _)⟩
    obtain ⟨pc, Ls, v, hpc, hv, cz⟩ := loop A.slots.size 0 (by omega) (fun j hj => absurd hj (Nat.not_lt_zero j)) c3
    have nv : narrow .boolean (.int v) = .int v := by rcases hv with ⟨rfl, -⟩ | ⟨rfl, -⟩ <;> rfl
    rcases hpc with rfl | rfl
    · exact ⟨s₁, some (.int v), _, _, _, X0, rfl, rfl, rfl, (fun h => by cases h), ⟨v, rfl, hh0, hv⟩, fun fs hl => cz.trans (X0.ireturnOut hexec hret nv (Or.inr (Or.inl rfl)) (hb hbytes d25) hl)⟩
    · exact ⟨s₁, some (.int v), _, _, _, X0, rfl, rfl, rfl, (fun h => by cases h), ⟨v, rfl, hh0, hv⟩, fun fs hl => cz.trans (X0.ireturnOut hexec hret nv (Or.inr (Or.inl rfl)) (hb hbytes d33) hl)⟩
  · have c3 : Steps p.tables e below (s₁.setTop (entryFrame m #[.ref a, .ref b] 3)) (s₁.setTop (mkF m 35 #[.val (.ref a), .val (.ref b), .unset] [.int 0])) := c2.trans (by
      refine XS.icmpYes X0.here hexec rfl (pc0 := 4) rfl (hb hbytes d4) rfl (ii_ne_t (ne32 a31 b31 hs)) (by decide) rfl ?_
      refine iconstV X0.here hexec rfl 0 (hb hbytes d34) (by decide) ?_
      exact Steps.refl _)
    exact ⟨s₁, some (.int 0), _, _, _, X0, rfl, rfl, rfl, (fun h => by cases h), ⟨0, rfl, hh0, Or.inr ⟨rfl, fun q => hs q.1⟩⟩, fun fs hl => c3.trans (X0.ireturnOut hexec hret rfl (Or.inr (Or.inl rfl)) (hb hbytes d35) hl)⟩
end LEq
theorem Cod.ty {cd : Int32} {n : Nat} {f : Nat → Int32} {V : Cell} (h : Cod cd n f V) : Typed .byte V := fun i v hv => by
  have hi : i < V.slots.size := (Array.getElem?_eq_some_iff.mp hv).1
  rcases h with ⟨-, k1, k2⟩ | ⟨-, k1, k2, -⟩
  · rw [(k2 i (by omega)).1] at hv; cases hv; exact fits_lo8 _
  · rcases Nat.mod_two_eq_zero_or_one i with e | e
    · obtain ⟨j, rfl⟩ : ∃ j, i = 2 * j := ⟨i / 2, by omega⟩
      rw [(k2 j (by omega)).1] at hv; cases hv; exact fits_lo8 _
    · obtain ⟨j, rfl⟩ : ∃ j, i = 2 * j + 1 := ⟨i / 2, by omega⟩
      rw [(k2 j (by omega)).2] at hv; cases hv; exact fits_lo8 _
/-- the same text -/
def SameT (n : Nat) (f : Nat → Int32) (k : Nat) (g : Nat → Int32) : Prop := n = k ∧ ∀ j, j < n → f j = g j
theorem lo8_inj {x y : Int32} (h0 : ¬ x < 0) (h1 : ¬ 255 < x) (k0 : ¬ y < 0) (k1 : ¬ 255 < y) (h : lo8 x = lo8 y) : x = y := by
  rw [← lo8_mask h0 h1, ← lo8_mask k0 k1, h]
/-- arrays coded by one coder are equal just where the texts are -/
theorem Cod.eqv {cd : Int32} {n k : Nat} {f g : Nat → Int32} {V V' : Cell} (h : Cod cd n f V) (h' : Cod cd k g V') (hf : ∀ j, j < n → ¬ f j < 0 ∧ ¬ 65535 < f j) (hg : ∀ j, j < k → ¬ g j < 0 ∧ ¬ 65535 < g j) : EqC V V' ↔ SameT n f k g := by
  have yvv : ∀ {W : Cell} {i : Nat} {x : Int32}, W.slots[i]? = some (.int x) → yv W i = x := fun q => by unfold yv; rw [q]
  rcases h with ⟨rfl, k1, k2⟩ | ⟨rfl, k1, k2, -⟩
  · rcases h' with ⟨-, m1, m2⟩ | ⟨e, -⟩
    · constructor
      · rintro ⟨e1, e2⟩
        refine ⟨by omega, fun j hj => ?_⟩
        have q := e2 j (by omega)
        rw [yvv (k2 j hj).1, yvv (m2 j (by omega)).1] at q
        exact lo8_inj (hf j hj).1 (k2 j hj).2 (hg j (by omega)).1 (m2 j (by omega)).2 q
      · rintro ⟨rfl, e2⟩
        refine ⟨by omega, fun j hj => ?_⟩
        rw [yvv (k2 j (by omega)).1, yvv (m2 j (by omega)).1, e2 j (by omega)]
    · exact absurd e (by decide)
  · rcases h' with ⟨e, -⟩ | ⟨-, m1, m2, -⟩
    · exact absurd e (by decide)
    · constructor
      · rintro ⟨e1, e2⟩
        refine ⟨by omega, fun j hj => ?_⟩
        have q1 := e2 (2 * j) (by omega)
        have q2 := e2 (2 * j + 1) (by omega)
        rw [yvv (k2 j hj).1, yvv (m2 j (by omega)).1] at q1
        rw [yvv (k2 j hj).2, yvv (m2 j (by omega)).2] at q2
        rw [← pair_says (hf j hj).1 (hf j hj).2, ← pair_says (hg j (by omega)).1 (hg j (by omega)).2, q1, q2]
      · rintro ⟨rfl, e2⟩
        refine ⟨by omega, fun i hi => ?_⟩
        rcases Nat.mod_two_eq_zero_or_one i with e | e
        · obtain ⟨j, rfl⟩ : ∃ j, i = 2 * j := ⟨i / 2, by omega⟩
          rw [yvv (k2 j (by omega)).1, yvv (m2 j (by omega)).1, e2 j (by omega)]
        · obtain ⟨j, rfl⟩ : ∃ j, i = 2 * j + 1 := ⟨i / 2, by omega⟩
          rw [yvv (k2 j (by omega)).2, yvv (m2 j (by omega)).2, e2 j (by omega)]
/-- two codings differ: so do the texts -/
theorem Cod.dif {cd cd' : Int32} {n k : Nat} {f g : Nat → Int32} {V V' : Cell} (h : Cod cd n f V) (h' : Cod cd' k g V') (hne : ¬ cd = cd') : ¬ SameT n f k g := by
  rintro ⟨rfl, e⟩
  rcases h with ⟨rfl, -, k2⟩ | ⟨rfl, -, -, j, hj, hw⟩
  · rcases h' with ⟨rfl, -⟩ | ⟨-, -, -, j, hj, hw⟩
    · exact hne rfl
    · exact (k2 j hj).2 (by rw [e j hj]; exact hw)
  · rcases h' with ⟨-, -, m2⟩ | ⟨rfl, -⟩
    · exact (m2 j hj).2 (by rw [← e j hj]; exact hw)
    · exact hne rfl
/-- an object of exactly C is an instance of C -/
theorem cinst {p : Program} {l : Launch} {e : Env} {R : Room} {s : State} {m : MethodId} {args : Array Value} {below : List Frame} {meth : Method} {c : Code} {T : State} {locs : List Loc} {cells slots : Nat} (X : Stand p l e R s m args below meth c T locs cells slots) (hexec : p.tables.exec = Jvm.exec) {own C : String} {index : Nat} (hown : s.vm.findClass own = some m.cls) (hlink : (Cond.classLink own index C).before args s = true) {a : Addr} (hE : Exact C a T)
    {g : JFrame} (hg : g.method = m) {rest : List Value} (hstack : g.stack = .ref a :: rest) (hdg : decode c.code g.pc = .ok (.instanceof index, 3)) :
    ∃ T', Stand p l e R s m args below meth c T' locs cells slots ∧ T'.heap = T.heap ∧ ∀ target, Steps p.tables e below (T'.setTop { g with pc := g.pc + 3, stack := .int 1 :: rest }) target → Steps p.tables e below (T.setTop g) target := by
  obtain ⟨cB, h1, D, h2, h3, h4⟩ := hE
  have h1' : s.vm.findClass C = some cB := by rw [← X.warmed.alike.findClass]; exact h1
  obtain ⟨vm', X', st⟩ := X.instanceofYes hexec hown hlink h2 h4 h1' (by rw [h3]; exact Jvm.Free.SB.assignable_self _ _) hg hstack hdg
  exact ⟨_, X', rfl, st⟩
theorem cself {p : Program} {l : Launch} {e : Env} {R : Room} {s : State} {m : MethodId} {args : Array Value} {below : List Frame} {meth : Method} {c : Code} {T : State} {locs : List Loc} {cells slots : Nat} (X : Stand p l e R s m args below meth c T locs cells slots) (hexec : p.tables.exec = Jvm.exec) {own C : String} {index : Nat} (hown : s.vm.findClass own = some m.cls) (hlink : (Cond.classLink own index C).before args s = true) {a : Addr} (hE : Exact C a T)
    {g : JFrame} (hg : g.method = m) {rest : List Value} (hstack : g.stack = .ref a :: rest) (hdg : decode c.code g.pc = .ok (.checkcast index, 3)) :
    ∃ T', Stand p l e R s m args below meth c T' locs cells slots ∧ T'.heap = T.heap ∧ ∀ target, Steps p.tables e below (T'.setTop { g with pc := g.pc + 3, stack := .ref a :: rest }) target → Steps p.tables e below (T.setTop g) target := by
  obtain ⟨cB, h1, D, h2, h3, h4⟩ := hE
  have h1' : s.vm.findClass C = some cB := by rw [← X.warmed.alike.findClass]; exact h1
  obtain ⟨vm', X', st⟩ := X.checkcastYes hexec hown hlink h2 h4 h1' (by rw [h3]; exact Jvm.Free.SB.assignable_self _ _) hg hstack hdg
  exact ⟨_, X', rfl, fun t h => st t (by rw [← hstack] at h; exact h)⟩
namespace SEq
def yN : MethodName := ⟨"java/lang/String", "equals", "(Ljava/lang/Object;)Z"⟩
abbrev yB : ByteArray := jdk_42_method_66_code
theorem d0 : decode yB 0 = .ok (.aload_n 0, 1) := by decide +kernel
theorem d1 : decode yB 1 = .ok (.aload_n 1, 1) := by decide +kernel
theorem d2 : decode yB 2 = .ok (.if_acmp (.ne) 5, 3) := by decide +kernel
theorem d5 : decode yB 5 = .ok (.iconst 1, 1) := by decide +kernel
theorem d6 : decode yB 6 = .ok (.ireturn, 1) := by decide +kernel
theorem d7 : decode yB 7 = .ok (.aload_n 1, 1) := by decide +kernel
theorem d8 : decode yB 8 = .ok (.instanceof 10, 3) := by decide +kernel
theorem d11 : decode yB 11 = .ok (.ifCond (.eq) 43, 3) := by decide +kernel
theorem d14 : decode yB 14 = .ok (.aload_n 1, 1) := by decide +kernel
theorem d15 : decode yB 15 = .ok (.checkcast 10, 3) := by decide +kernel
theorem d18 : decode yB 18 = .ok (.astore_n 2, 1) := by decide +kernel
theorem d19 : decode yB 19 = .ok (.getstatic 38, 3) := by decide +kernel
theorem d22 : decode yB 22 = .ok (.ifCond (.eq) 14, 3) := by decide +kernel
theorem d25 : decode yB 25 = .ok (.aload_n 0, 1) := by decide +kernel
theorem d26 : decode yB 26 = .ok (.getfield 15, 3) := by decide +kernel
theorem d29 : decode yB 29 = .ok (.aload_n 2, 1) := by decide +kernel
theorem d30 : decode yB 30 = .ok (.getfield 15, 3) := by decide +kernel
theorem d33 : decode yB 33 = .ok (.if_icmp (.ne) 21, 3) := by decide +kernel
theorem d36 : decode yB 36 = .ok (.aload_n 0, 1) := by decide +kernel
theorem d37 : decode yB 37 = .ok (.getfield 9, 3) := by decide +kernel
theorem d40 : decode yB 40 = .ok (.aload_n 2, 1) := by decide +kernel
theorem d41 : decode yB 41 = .ok (.getfield 9, 3) := by decide +kernel
theorem d44 : decode yB 44 = .ok (.invokestatic 541, 3) := by decide +kernel
theorem d47 : decode yB 47 = .ok (.ifCond (.eq) 7, 3) := by decide +kernel
theorem d50 : decode yB 50 = .ok (.iconst 1, 1) := by decide +kernel
theorem d51 : decode yB 51 = .ok (.goto 4, 3) := by decide +kernel
theorem d54 : decode yB 54 = .ok (.iconst 0, 1) := by decide +kernel
theorem d55 : decode yB 55 = .ok (.ireturn, 1) := by decide +kernel
def site : List Cond := [.classLink "java/lang/String" 10 "java/lang/String", .fieldLink "java/lang/String" 38 "java/lang/String" "COMPACT_STRINGS" "Z", .fieldLink "java/lang/String" 15 "java/lang/String" "coder" "B", .fieldLink "java/lang/String" 9 "java/lang/String" "value" "[B", LEq.tab] ++ staticW "java/lang/String" 541 LEq.yN
def tab : Cond := tabOf yN yB 3 (some .boolean) site
def P (x t : Addr) (V : Cell) (cd : Int32) (n : Nat) (f : Nat → Int32) (y t' : Addr) (V' : Cell) (cd' : Int32) (k : Nat) (g : Nat → Int32) (z : Int32) (args : Array Value) (s : State) : Prop := args = #[.ref x, .ref y] ∧ Txt x t V cd n f s ∧ Txt y t' V' cd' k g s ∧ StaticIs s "java/lang/String" "COMPACT_STRINGS" "Z" (.int z) ∧ ¬ z = 0
/-- equals(Object) of two Strings: whether the texts are the same -/
theorem law (l : Launch) (x t : Addr) (V : Cell) (cd : Int32) (n : Nat) (f : Nat → Int32) (y t' : Addr) (V' : Cell) (cd' : Int32) (k : Nat) (g : Nat → Int32) (z : Int32) : Law l yN 2 1 1 14 yB 3 (some .boolean) site (P x t V cd n f y t' V' cd' k g z) (Says01 (SameT n f k g)) [] 0 0 := by
  refine Law.of_walk (plainFor_of_name (by decide +kernel)) (by decide +kernel) (by decide +kernel) (by decide) (fun _ _ h => by rw [h.1]; rfl) (fun _ U U' hal hh h => ⟨h.1, h.2.1.mv hal hh, h.2.2.1.mv hal hh, h.2.2.2.1.there hal hh, h.2.2.2.2⟩) (fun r U U' V V' h1 hal h2 h => Says01.mv r U U' V V' h1 hal h2 h) ?_
  intro p e s m args below meth c s₁ X0 hexec hbytes hml hret hlk hnm hown hh0 W hP
  obtain ⟨rfl, hx, hy, s1, hz⟩ := hP
  have c1 : Steps p.tables e below (s₁.setTop (entryFrame m #[.ref x, .ref y] 3)) (s₁.setTop (mkF m 2 #[.val (.ref x), .val (.ref y), .unset] [.ref y, .ref x])) := Steps.trans (entry rfl) (by
    show Steps p.tables e below (s₁.setTop (mkF m 0 #[.val (.ref x), .val (.ref y), .unset] [])) _
    refine XS.aloadN X0.here hexec rfl (hb hbytes d0) rfl rfl ?_
    refine XS.aloadN X0.here hexec rfl (hb hbytes d1) rfl rfl ?_
    exact Steps.refl _)
  by_cases hxy : x = y
  · have c2 : Steps p.tables e below (s₁.setTop (entryFrame m #[.ref x, .ref y] 3)) (s₁.setTop (mkF m 6 #[.val (.ref x), .val (.ref y), .unset] [.int 1])) := c1.trans (by
      refine acmpNo X0.here hexec rfl (hb hbytes d2) rfl rfl rfl (by simp [acmp, hxy]) ?_
      refine iconstV X0.here hexec rfl 1 (hb hbytes d5) (by decide) ?_
      exact Steps.refl _)
    subst hxy
    have ec : cd = cd' := by
      obtain ⟨D, fd, a1, a2, a3⟩ := hx.2.2.1
      obtain ⟨D', fd', b1, b2, b3⟩ := hy.2.2.1
      cases a1.symm.trans b1
      obtain ⟨q1, q2, q3, q4⟩ := a2.1
      obtain ⟨r1, r2, r3, r4⟩ := b2.1
      cases q4.symm.trans r4
      cases a3.symm.trans b3; rfl
    have et : t = t' := by
      obtain ⟨D, fd, a1, a2, a3⟩ := hx.2.1
      obtain ⟨D', fd', b1, b2, b3⟩ := hy.2.1
      cases a1.symm.trans b1
      obtain ⟨q1, q2, q3, q4⟩ := a2.1
      obtain ⟨r1, r2, r3, r4⟩ := b2.1
      cases q4.symm.trans r4
      cases a3.symm.trans b3; rfl
    subst ec et
    have ev : V = V' := by cases hx.2.2.2.1.1.symm.trans hy.2.2.2.1.1; rfl
    subst ev
    have hs : SameT n f k g := (Cod.eqv hx.2.2.2.2.1 hy.2.2.2.2.1 hx.2.2.2.2.2 hy.2.2.2.2.2).mp ⟨rfl, fun _ _ => rfl⟩
    exact ⟨s₁, some (.int 1), _, _, _, X0, rfl, rfl, rfl, (fun h => by cases h), ⟨1, rfl, hh0, Or.inl ⟨rfl, hs⟩⟩, fun fs hl => c2.trans (X0.ireturnOut hexec hret rfl (Or.inr (Or.inl rfl)) (hb hbytes d6) hl)⟩
  · have c2 : Steps p.tables e below (s₁.setTop (entryFrame m #[.ref x, .ref y] 3)) (s₁.setTop (mkF m 8 #[.val (.ref x), .val (.ref y), .unset] [.ref y])) := c1.trans (by
      refine acmpYes X0.here hexec rfl (pc0 := 2) rfl (hb hbytes d2) rfl rfl rfl (by simp [acmp, hxy]) (by decide) rfl ?_
      refine XS.aloadN X0.here hexec rfl (hb hbytes d7) rfl rfl ?_
      exact Steps.refl _)
    obtain ⟨T3, X3, q3, st3⟩ := cinst X0 hexec hown (wk W (.classLink "java/lang/String" 10 "java/lang/String")) (hy.mv X0.warmed.alike hh0).1 (g := (mkF m 8 #[.val (.ref x), .val (.ref y), .unset] [.ref y])) rfl (rest := []) rfl (hb hbytes d8)
    have hh3 := q3.trans hh0
    have c4 : Steps p.tables e below (s₁.setTop (entryFrame m #[.ref x, .ref y] 3)) (T3.setTop (mkF m 15 #[.val (.ref x), .val (.ref y), .unset] [.ref y])) := (c2.trans (st3 _ (Steps.refl _))).trans (by
      refine XS.ifNo X3.here hexec rfl (hb hbytes d11) rfl (i0_eq_f (by decide)) ?_
      refine XS.aloadN X3.here hexec rfl (hb hbytes d14) rfl rfl ?_
      exact Steps.refl _)
    obtain ⟨T5, X5, q5, st5⟩ := cself X3 hexec hown (wk W (.classLink "java/lang/String" 10 "java/lang/String")) (hy.mv X3.warmed.alike hh3).1 (g := (mkF m 15 #[.val (.ref x), .val (.ref y), .unset] [.ref y])) rfl (rest := []) rfl (hb hbytes d15)
    have hh5 := q5.trans hh3
    have c6 : Steps p.tables e below (s₁.setTop (entryFrame m #[.ref x, .ref y] 3)) (T5.setTop (mkF m 19 #[.val (.ref x), .val (.ref y), .val (.ref y)] [])) := (c4.trans (st5 _ (Steps.refl _))).trans (by
      refine XS.astoreN X5.here hexec rfl (hb hbytes d18) rfl rfl rfl ?_
      exact Steps.refl _)
    obtain ⟨T7, X7, q7, st7⟩ := X5.sget hexec hown (wk W (.fieldLink "java/lang/String" 38 "java/lang/String" "COMPACT_STRINGS" "Z")) s1 (fun _ _ h => by rw [hh5]; exact h) (g := (mkF m 19 #[.val (.ref x), .val (.ref y), .val (.ref y)] [])) rfl (hb hbytes d19)
    have hh7 := q7.trans hh5
    have c8 : Steps p.tables e below (s₁.setTop (entryFrame m #[.ref x, .ref y] 3)) (T7.setTop (mkF m 26 #[.val (.ref x), .val (.ref y), .val (.ref y)] [.ref x])) := (c6.trans (st7 _ (Steps.refl _))).trans (by
      refine XS.ifNo X7.here hexec rfl (hb hbytes d22) rfl (i0_eq_f hz) ?_
      refine XS.aloadN X7.here hexec rfl (hb hbytes d25) rfl rfl ?_
      exact Steps.refl _)
    obtain ⟨T9, X9, q9, st9⟩ := X7.hget hexec hown (wk W (.fieldLink "java/lang/String" 15 "java/lang/String" "coder" "B")) (hx.mv X7.warmed.alike hh7).2.2.1 (g := (mkF m 26 #[.val (.ref x), .val (.ref y), .val (.ref y)] [.ref x])) rfl (rest := []) rfl (hb hbytes d26)
    have hh9 := q9.trans hh7
    have c10 : Steps p.tables e below (s₁.setTop (entryFrame m #[.ref x, .ref y] 3)) (T9.setTop (mkF m 30 #[.val (.ref x), .val (.ref y), .val (.ref y)] [.ref y, .int cd])) := (c8.trans (st9 _ (Steps.refl _))).trans (by
      refine XS.aloadN X9.here hexec rfl (hb hbytes d29) rfl rfl ?_
      exact Steps.refl _)
    obtain ⟨T11, X11, q11, st11⟩ := X9.hget hexec hown (wk W (.fieldLink "java/lang/String" 15 "java/lang/String" "coder" "B")) (hy.mv X9.warmed.alike hh9).2.2.1 (g := (mkF m 30 #[.val (.ref x), .val (.ref y), .val (.ref y)] [.ref y, .int cd])) rfl (rest := [.int cd]) rfl (hb hbytes d30)
    have hh11 := q11.trans hh9
    have c12 : Steps p.tables e below (s₁.setTop (entryFrame m #[.ref x, .ref y] 3)) (T11.setTop (mkF m 33 #[.val (.ref x), .val (.ref y), .val (.ref y)] [.int cd', .int cd])) := c10.trans (st11 _ (Steps.refl _))
    by_cases hcd : cd = cd'
    · subst hcd
      have c13 : Steps p.tables e below (s₁.setTop (entryFrame m #[.ref x, .ref y] 3)) (T11.setTop (mkF m 37 #[.val (.ref x), .val (.ref y), .val (.ref y)] [.ref x])) := c12.trans (by
        refine XS.icmpNo X11.here hexec rfl (hb hbytes d33) rfl (ii_ne_f rfl) ?_
        refine XS.aloadN X11.here hexec rfl (hb hbytes d36) rfl rfl ?_
        exact Steps.refl _)
      obtain ⟨T14, X14, q14, st14⟩ := X11.hget hexec hown (wk W (.fieldLink "java/lang/String" 9 "java/lang/String" "value" "[B")) (hx.mv X11.warmed.alike hh11).2.1 (g := (mkF m 37 #[.val (.ref x), .val (.ref y), .val (.ref y)] [.ref x])) rfl (rest := []) rfl (hb hbytes d37)
      have hh14 := q14.trans hh11
      have c15 : Steps p.tables e below (s₁.setTop (entryFrame m #[.ref x, .ref y] 3)) (T14.setTop (mkF m 41 #[.val (.ref x), .val (.ref y), .val (.ref y)] [.ref y, .ref t])) := (c13.trans (st14 _ (Steps.refl _))).trans (by
        refine XS.aloadN X14.here hexec rfl (hb hbytes d40) rfl rfl ?_
        exact Steps.refl _)
      obtain ⟨T16, X16, q16, st16⟩ := X14.hget hexec hown (wk W (.fieldLink "java/lang/String" 9 "java/lang/String" "value" "[B")) (hy.mv X14.warmed.alike hh14).2.1 (g := (mkF m 41 #[.val (.ref x), .val (.ref y), .val (.ref y)] [.ref y, .ref t])) rfl (rest := [.ref t]) rfl (hb hbytes d41)
      have hh16 := q16.trans hh14
      have c17 : Steps p.tables e below (s₁.setTop (entryFrame m #[.ref x, .ref y] 3)) (T16.setTop (mkF m 44 #[.val (.ref x), .val (.ref y), .val (.ref y)] [.ref t', .ref t])) := c15.trans (st16 _ (Steps.refl _))
      obtain ⟨v18, T18, X18, E18, g18⟩ := X16.callS hexec (LEq.law l t V t' V') hown (wks W (staticW "java/lang/String" 541 LEq.yN)) (wk W LEq.tab) (W := 0) (Nat.le_of_ble_eq_true rfl) (Nat.le_of_ble_eq_true rfl) (Nat.le_refl _) (Nat.le_refl _) (g := (mkF m 44 #[.val (.ref x), .val (.ref y), .val (.ref y)] [.ref t', .ref t])) rfl (by rw [hml]; rfl) c17 (argsL := [.ref t, .ref t']) (rest := []) rfl rfl (by show 2 * 0 + 0 ≤ _; decide) (hb hbytes d44) (⟨rfl, hx.2.2.2.1.mv X16.warmed.alike hh16, hx.2.2.2.2.1.ty, hy.2.2.2.1.mv X16.warmed.alike hh16, hy.2.2.2.2.1.ty⟩)
      obtain ⟨v, rfl, q18, hv⟩ := E18
      have iff := Cod.eqv hx.2.2.2.2.1 hy.2.2.2.2.1 hx.2.2.2.2.2 hy.2.2.2.2.2
      rcases hv with ⟨rfl, he⟩ | ⟨rfl, he⟩
      · have c19 : Steps p.tables e below (s₁.setTop (entryFrame m #[.ref x, .ref y] 3)) (T18.setTop (mkF m 55 #[.val (.ref x), .val (.ref y), .val (.ref y)] [.int 1])) := Steps.trans g18 (by
          refine XS.ifNo X18.here hexec rfl (hb hbytes d47) rfl (i0_eq_f (by decide)) ?_
          refine iconstV X18.here hexec rfl 1 (hb hbytes d50) (by decide) ?_
          refine XS.goto X18.here hexec rfl (pc0 := 51) rfl (hb hbytes d51) (by decide) rfl ?_
          exact Steps.refl _)
        exact ⟨T18, some (.int 1), _, _, _, X18, rfl, rfl, rfl, (fun h => by cases h), ⟨1, rfl, q18.trans hh16, Or.inl ⟨rfl, iff.mp he⟩⟩, fun fs hl => c19.trans (X18.ireturnOut hexec hret rfl (Or.inr (Or.inl rfl)) (hb hbytes d55) hl)⟩
      · have c19 : Steps p.tables e below (s₁.setTop (entryFrame m #[.ref x, .ref y] 3)) (T18.setTop (mkF m 55 #[.val (.ref x), .val (.ref y), .val (.ref y)] [.int 0])) := Steps.trans g18 (by
          refine XS.ifYes X18.here hexec rfl (pc0 := 47) rfl (hb hbytes d47) rfl (i0_eq_t rfl) (by decide) rfl ?_
          refine iconstV X18.here hexec rfl 0 (hb hbytes d54) (by decide) ?_
          exact Steps.refl _)
        exact ⟨T18, some (.int 0), _, _, _, X18, rfl, rfl, rfl, (fun h => by cases h), ⟨0, rfl, q18.trans hh16, Or.inr ⟨rfl, fun q => he (iff.mpr q)⟩⟩, fun fs hl => c19.trans (X18.ireturnOut hexec hret rfl (Or.inr (Or.inl rfl)) (hb hbytes d55) hl)⟩
    · have c13 : Steps p.tables e below (s₁.setTop (entryFrame m #[.ref x, .ref y] 3)) (T11.setTop (mkF m 55 #[.val (.ref x), .val (.ref y), .val (.ref y)] [.int 0])) := c12.trans (by
        refine XS.icmpYes X11.here hexec rfl (pc0 := 33) rfl (hb hbytes d33) rfl (ii_ne_t hcd) (by decide) rfl ?_
        refine iconstV X11.here hexec rfl 0 (hb hbytes d54) (by decide) ?_
        exact Steps.refl _)
      exact ⟨T11, some (.int 0), _, _, _, X11, rfl, rfl, rfl, (fun h => by cases h), ⟨0, rfl, hh11, Or.inr ⟨rfl, Cod.dif hx.2.2.2.2.1 hy.2.2.2.2.1 hcd⟩⟩, fun fs hl => c13.trans (X11.ireturnOut hexec hret rfl (Or.inr (Or.inl rfl)) (hb hbytes d55) hl)⟩
theorem pays {l : Launch} {R : Room} {p : Program} {e : Env} {below : List Frame} {s : State} {sargs : Array Value} {len W : Nat} (x t : Addr) (V : Cell) (cd : Int32) (n : Nat) (f : Nat → Int32) (y t' : Addr) (V' : Cell) (cd' : Int32) (k : Nat) (g : Nat → Int32) (z : Int32) (htab : tab.before sargs s = true) (hfr : 2 ≤ R.frames) (hlo : W + 28 ≤ R.locals) :
    Back l R p e below s sargs yN len W (fun A₁ a₁ => A₁.cells + 0 ≤ R.cells ∧ A₁.slots + 0 ≤ R.slots ∧ P x t V cd n f y t' V' cd' k g z a₁ A₁.U) (fun A₁ _ v₁ B₁ => Says01 (SameT n f k g) v₁ A₁.U B₁.U ∧ B₁.locs = A₁.locs ++ [] ∧ B₁.cells = A₁.cells + 0 ∧ B₁.slots = A₁.slots + 0) :=
  (law l x t V cd n f y t' V' cd' k g z).pays htab hfr (by omega)
end SEq
end StrChars
namespace StrChars.Road
open Jvm Sem ClassFile Op Lib Jvm.Stand Jvm.Free Jvm.Free.XT
open Jvm.Lib.Cold (StaticIs)
/-- the words of String.equals(Object) -/
abbrev wordsEq : List Jvm.Cond := [.code SEq.yN SEq.yB 3 (some .boolean), .initialized ST, .classLink ST 10 ST, .fieldLink ST 38 ST "COMPACT_STRINGS" "Z", .fieldLink ST 15 ST "coder" "B", .fieldLink ST 9 ST "value" "[B", .methodLink ST 541 LEq.yN, .static LEq.yN, .code LEq.yN LEq.yB 3 (some .boolean), .initialized "java/lang/StringLatin1"]
theorem tabEq_of {a : Array Value} {s : State} (h : ∀ w ∈ wordsEq, w.before a s = true) : SEq.tab.before a s = true := by
  have hl : LEq.tab.before a s = true := unparts (wk h (.code LEq.yN LEq.yB 3 (some .boolean))) (wks h (.initialized LEq.yN.cls :: LEq.site))
  have q := consq hl h
  exact unparts (wk q (.code SEq.yN SEq.yB 3 (some .boolean))) (wks q (.initialized SEq.yN.cls :: SEq.site))
theorem movedEq {Z s : State} {a0 args : Array Value} (hZ : Z.Warmed39 s.vm) (hw : ∀ d ∈ wordsEq, d.before a0 Z = true) : ∀ d ∈ wordsEq, d.before args s = true := fun d hd => by
  have t : ∀ d ∈ wordsEq, (d.onTables && d.keepsFace) = true := by decide +kernel
  exact RoadKit.mv hZ (hw d hd) (t d hd)
/-- the road's facts of a String, as the laws ask it -/
theorem txt_of {Z U : State} {a0 : Array Value} {kI : Nat} (wi : (Jvm.Cond.instantiable ST kI).before a0 Z = true) (al : Z.vm.Alike U.vm) {x t : Addr} {kb : ClassId} {cs : List Int32} {cd N2 : Int32} {vs : List Value} (E : RoadKit.Exa Z U.heap x ST) (V : RoadKit.Fld Z U.heap x ST "value" "[B" (.ref t)) (C : RoadKit.Fld Z U.heap x ST "coder" "B" (.int cd)) (K : RoadKit.Arv Z U.heap t kb .byte N2 vs (.int 0)) (hc : CodA cs cd N2 vs) (hb : ∀ c ∈ cs, ¬ c < 0 ∧ ¬ (65535 : Int32) < c) (l2 : cs.length ≤ 4000) :
    ∃ A, Txt x t A cd cs.length (fun j => cs.getD j 0) U := by
  obtain ⟨A, K1, K2, K3, K4, K5, K6⟩ := K
  have hcod := hc.cod (by omega) K3 K5
  obtain ⟨D, fV, fC, hB, F1, F2, g1, g2, -, -⟩ := strObj wi al E V C
  exact ⟨A, ⟨_, hB.2.2.1, D, hB.1, rfl, by cases q : D.vm <;> first | rfl | exact absurd q (hB.2.1.2 _)⟩, Has.of hB F1 g1, Has.of hB F2 g2, ⟨K1.1, State.isArrayOf_alike al K1.2.1, K1.2.2, by rcases hcod with ⟨-, q, -⟩ | ⟨-, q, -⟩ <;> omega⟩, hcod, fun j hj => by
    have e : cs.getD j 0 = cs[j] := by simp [List.getD_eq_getElem?_getD, hj]
    show ¬ cs.getD j 0 < 0 ∧ ¬ 65535 < cs.getD j 0
    rw [e]; exact hb _ (List.getElem_mem _)⟩
theorem same_list (cs ds : List Int32) : SameT cs.length (fun j => cs.getD j 0) ds.length (fun j => ds.getD j 0) ↔ cs = ds := by
  constructor
  · rintro ⟨e, q⟩
    refine List.ext_getElem e fun j h1 h2 => ?_
    have := q j h1
    simpa [List.getD_eq_getElem?_getD, h1, h2] using this
  · rintro rfl
    exact ⟨rfl, fun _ _ => rfl⟩
/-- **equals(Object) OF TWO SUCH STRINGS**: 1 just where the chars are the same -/
theorem eqW {p : Program} {l : Launch} {e : Env} {R : Room} {s : State} {args : Array Value} {below : List Frame} {len W : Nat} {Z : State} {a0 : Array Value} {h : Heap} (hZ : Z.Warmed39 s.vm) (hw : ∀ d ∈ wordsEq, d.before a0 Z = true) {kI : Nat} (wi : (Jvm.Cond.instantiable ST kI).before a0 Z = true)
    {x t : Addr} {kb : ClassId} {cs : List Int32} {cd N2 : Int32} {vs : List Value} (E : RoadKit.Exa Z h x ST) (V : RoadKit.Fld Z h x ST "value" "[B" (.ref t)) (C : RoadKit.Fld Z h x ST "coder" "B" (.int cd)) (K : RoadKit.Arv Z h t kb .byte N2 vs (.int 0)) (hc : CodA cs cd N2 vs) (hb : ∀ c ∈ cs, ¬ c < 0 ∧ ¬ (65535 : Int32) < c) (l2 : cs.length ≤ 4000)
    {y t' : Addr} {kb' : ClassId} {ds : List Int32} {cd' N2' : Int32} {vs' : List Value} (E' : RoadKit.Exa Z h y ST) (V' : RoadKit.Fld Z h y ST "value" "[B" (.ref t')) (C' : RoadKit.Fld Z h y ST "coder" "B" (.int cd')) (K' : RoadKit.Arv Z h t' kb' .byte N2' vs' (.int 0)) (hc' : CodA ds cd' N2' vs') (hb' : ∀ c ∈ ds, ¬ c < 0 ∧ ¬ (65535 : Int32) < c) (l2' : ds.length ≤ 4000)
    {z : Int32} (S : RoadKit.Sta Z h ST "COMPACT_STRINGS" "Z" (.int z)) (hz : ¬ z = 0) (hfr : 2 ≤ R.frames) (hlo : W + 28 ≤ R.locals) :
    Back l R p e below s args (⟨"java/lang/String", "equals", "(Ljava/lang/Object;)Z"⟩ : MethodName) len W (fun P a => a = #[.ref x, .ref y] ∧ P.U.heap = h ∧ P.cells + 0 ≤ R.cells ∧ P.slots + 0 ≤ R.slots)
      (fun P _ v B => ∃ L, (((v = some (.int 1) ∧ cs = ds) ∨ (v = some (.int 0) ∧ ¬ cs = ds)) ∧ L = [] ∧ B.U.heap = h) ∧ B.locs = P.locs ++ L ∧ B.cells = P.cells + 0 ∧ B.slots = P.slots + 0) := by
  intro m meth c P g ig mk a X hg hsize hdg hW hn hp'
  obtain ⟨rfl, rfl, r1, r2⟩ := hp'
  have al : Z.vm.Alike P.U.vm := hZ.alike.trans X.warmed.alike
  obtain ⟨A, hx⟩ := txt_of wi al E V C K hc hb l2
  obtain ⟨A', hy⟩ := txt_of wi al E' V' C' K' hc' hb' l2'
  obtain ⟨v, B, X', ⟨⟨w, hv, hh, hq⟩, hl, hk, hs⟩, st⟩ := SEq.pays x t A cd cs.length (fun j => cs.getD j 0) y t' A' cd' ds.length (fun j => ds.getD j 0) z (tabEq_of (movedEq hZ hw)) hfr hlo m meth c P g ig mk _ X hg hsize hdg hW hn ⟨r1, r2, rfl, hx, hy, sta_is al S, hz⟩
  refine ⟨v, B, X', ⟨[], ⟨?_, rfl, hh⟩, hl, hk, hs⟩, st⟩
  rcases hq with ⟨rfl, q⟩ | ⟨rfl, q⟩
  · exact Or.inl ⟨hv, (same_list cs ds).mp q⟩
  · exact Or.inr ⟨hv, fun e => q ((same_list cs ds).mpr e)⟩
end StrChars.Road
namespace StrChars
open Jvm Sem ClassFile Op Lib Jvm.Stand Jvm.Free.XT Jvm.Free.ALB Jvm.Free.JM Jvm.Free
open Jvm.Lib.Cold (StaticIs)
namespace ChN
def yN : MethodName := ⟨"java/lang/String", "charAt", "(I)C"⟩
abbrev yB : ByteArray := jdk_42_method_56_code
theorem d0 : decode yB 0 = .ok (.aload_n 0, 1) := by decide +kernel
theorem d1 : decode yB 1 = .ok (.invokevirtual 492, 3) := by decide +kernel
theorem d4 : decode yB 4 = .ok (.ifCond (.eq) 12, 3) := by decide +kernel
theorem d7 : decode yB 7 = .ok (.aload_n 0, 1) := by decide +kernel
theorem d8 : decode yB 8 = .ok (.getfield 9, 3) := by decide +kernel
theorem d11 : decode yB 11 = .ok (.iload_n 1, 1) := by decide +kernel
theorem d12 : decode yB 12 = .ok (.invokestatic 495, 3) := by decide +kernel
theorem d15 : decode yB 15 = .ok (.ireturn, 1) := by decide +kernel
def site : List Cond := [.fieldLink "java/lang/String" 9 "java/lang/String" "value" "[B", IsL.tab, LChA.tab] ++ virtW "java/lang/String" 492 "java/lang/String" IsL.yN IsL.yN ++ staticW "java/lang/String" 495 LChA.yN
def tab : Cond := tabOf yN yB 2 (some .char) site
def P (x t : Addr) (V : Cell) (n : Nat) (f : Nat → Int32) (z : Int32) (fm : Value) (i : Nat) (args : Array Value) (s : State) : Prop := args = #[.ref x, .int (Int32.ofNat i)] ∧ Txt x t V 0 n f s ∧ i < n ∧ StaticIs s "java/lang/String" "COMPACT_STRINGS" "Z" (.int z) ∧ ¬ z = 0 ∧ StaticIs s "jdk/internal/util/Preconditions" "SIOOBE_FORMATTER" "Ljava/util/function/BiFunction;" fm ∧ fm.isRef = true
def E (f : Nat → Int32) (i : Nat) (r : Option Value) (s u : State) : Prop := XT.PureE (some (.int (f i))) r s u
/-- charAt(i) of a Latin-1 String of n chars, i < n: f i -/
theorem law (l : Launch) (x t : Addr) (V : Cell) (n : Nat) (f : Nat → Int32) (z : Int32) (fm : Value) (i : Nat) : Law l yN 2 1 3 40 yB 2 (some .char) site (P x t V n f z fm i) (E f i) [] 0 0 := by
  refine Law.of_walk (plainFor_of_name (by decide +kernel)) (by decide +kernel) (by decide +kernel) (by decide) (fun _ _ h => by rw [h.1]; rfl) (fun _ U U' hal hh h => ⟨h.1, h.2.1.mv hal hh, h.2.2.1, h.2.2.2.1.there hal hh, h.2.2.2.2.1, h.2.2.2.2.2.1.there hal hh, h.2.2.2.2.2.2⟩) (fun r U U' V V' h1 hal h2 h => XT.PureE.mv r U U' V V' h1 hal h2 h) ?_
  intro p e s m args below meth c s₁ X0 hexec hbytes hml hret hlk hnm hown hh0 W hP
  obtain ⟨rfl, hx, hi, s1, hz, s3, rf⟩ := hP
  have v31 := hx.2.2.2.1.2.2.2
  have hr := hx.2.2.2.2.2 i hi
  have hx0 := hx.mv X0.warmed.alike hh0
  have c1 : Steps p.tables e below (s₁.setTop (entryFrame m #[.ref x, .int (Int32.ofNat i)] 2)) (s₁.setTop (mkF m 1 #[.val (.ref x), .val (.int (Int32.ofNat i))] [.ref x])) := Steps.trans (entry rfl) (by
    show Steps p.tables e below (s₁.setTop (mkF m 0 #[.val (.ref x), .val (.int (Int32.ofNat i))] [])) _
    refine XS.aloadN X0.here hexec rfl (hb hbytes d0) rfl rfl ?_
    exact Steps.refl _)
  obtain ⟨v2, T2, X2, E2, g2⟩ := X0.callV hexec (IsL.law l x 0 z) hown (wks W (virtW "java/lang/String" 492 "java/lang/String" IsL.yN IsL.yN)) rfl (by decide) (wk W IsL.tab) (W := 0) (Nat.le_of_ble_eq_true rfl) (Nat.le_of_ble_eq_true rfl) (Nat.le_refl _) (Nat.le_refl _) (hx0.1.fc X0.warmed.alike) hx0.1.is (g := (mkF m 1 #[.val (.ref x), .val (.int (Int32.ofNat i))] [.ref x])) rfl (by rw [hml]; rfl) c1 (argsL := []) (rest := []) rfl rfl (by show 2 * 0 + 0 ≤ _; decide) (hb hbytes d1) (⟨rfl, hx0.2.2.1, hx.2.2.2.2.1.cd, s1.there X0.warmed.alike hh0, hz⟩)
  obtain ⟨rfl, q2⟩ := E2
  have hh2 := q2.trans hh0
  have hx2 := hx.mv X2.warmed.alike hh2
  obtain ⟨-, k1, k2⟩ | ⟨k0, -⟩ := hx.2.2.2.2.1
  · have c3 : Steps p.tables e below (s₁.setTop (entryFrame m #[.ref x, .int (Int32.ofNat i)] 2)) (T2.setTop (mkF m 8 #[.val (.ref x), .val (.int (Int32.ofNat i))] [.ref x])) := Steps.trans g2 (by
      refine XS.ifNo X2.here hexec rfl (hb hbytes d4) rfl (i0_eq_f (by decide)) ?_
      refine XS.aloadN X2.here hexec rfl (hb hbytes d7) rfl rfl ?_
      exact Steps.refl _)
    obtain ⟨T4, X4, q4, st4⟩ := X2.hget hexec hown (wk W (.fieldLink "java/lang/String" 9 "java/lang/String" "value" "[B")) hx2.2.1 (g := (mkF m 8 #[.val (.ref x), .val (.int (Int32.ofNat i))] [.ref x])) rfl (rest := []) rfl (hb hbytes d8)
    have hh4 := q4.trans hh2
    have c5 : Steps p.tables e below (s₁.setTop (entryFrame m #[.ref x, .int (Int32.ofNat i)] 2)) (T4.setTop (mkF m 12 #[.val (.ref x), .val (.int (Int32.ofNat i))] [.int (Int32.ofNat i), .ref t])) := (c3.trans (st4 _ (Steps.refl _))).trans (by
      refine XS.iloadN X4.here hexec rfl (hb hbytes d11) rfl ?_
      exact Steps.refl _)
    obtain ⟨v6, T6, X6, E6, g6⟩ := X4.callS hexec (LChA.law l t V i (lo8 (f i)) fm) hown (wks W (staticW "java/lang/String" 495 LChA.yN)) (wk W LChA.tab) (W := 0) (Nat.le_of_ble_eq_true rfl) (Nat.le_of_ble_eq_true rfl) (Nat.le_refl _) (Nat.le_refl _) (g := (mkF m 12 #[.val (.ref x), .val (.int (Int32.ofNat i))] [.int (Int32.ofNat i), .ref t])) rfl (by rw [hml]; rfl) c5 (argsL := [.ref t, .int (Int32.ofNat i)]) (rest := []) rfl rfl (by show 2 * 0 + 0 ≤ _; decide) (hb hbytes d12) (⟨rfl, hx.2.2.2.1.mv X4.warmed.alike hh4, (k2 i hi).1, s3.there X4.warmed.alike hh4, rf⟩)
    obtain ⟨rfl, q6⟩ := E6
    rw [chr8_lo8 hr.1 (k2 i hi).2] at g6
    exact ⟨T6, some (.int (f i)), _, _, _, X6, rfl, rfl, rfl, (fun h => by cases h), ⟨rfl, q6.trans hh4⟩, fun fs hl => Steps.trans g6 (X6.ireturnOut hexec hret (narrow_ch hr.1 hr.2) (Or.inr (Or.inr (Or.inr (Or.inl rfl)))) (hb hbytes d15) hl)⟩
  · exact absurd k0 (by decide)
theorem pays {l : Launch} {R : Room} {p : Program} {e : Env} {below : List Frame} {s : State} {sargs : Array Value} {len W : Nat} (x t : Addr) (V : Cell) (n : Nat) (f : Nat → Int32) (z : Int32) (fm : Value) (i : Nat) (htab : tab.before sargs s = true) (hfr : 4 ≤ R.frames) (hlo : W + 53 ≤ R.locals) :
    Back l R p e below s sargs yN len W (fun A₁ a₁ => A₁.cells + 0 ≤ R.cells ∧ A₁.slots + 0 ≤ R.slots ∧ P x t V n f z fm i a₁ A₁.U) (fun A₁ _ v₁ B₁ => E f i v₁ A₁.U B₁.U ∧ B₁.locs = A₁.locs ++ [] ∧ B₁.cells = A₁.cells + 0 ∧ B₁.slots = A₁.slots + 0) :=
  (law l x t V n f z fm i).pays htab hfr (by omega)
end ChN
end StrChars
namespace StrChars.Road
open Jvm Sem ClassFile Op Lib Jvm.Stand Jvm.Free Jvm.Free.XT
open Jvm.Lib.Cold (StaticIs)
/-- the words of String.charAt(int), the Latin-1 road alone -/
abbrev wordsChN : List Jvm.Cond := [.code ChN.yN ChN.yB 2 (some .char), .initialized ST, .fieldLink ST 9 ST "value" "[B", .fieldLink ST 38 ST "COMPACT_STRINGS" "Z", .fieldLink ST 15 ST "coder" "B", .code IsL.yN IsL.yB 1 (some .boolean), .methodLink ST 492 IsL.yN, .declares IsL.yN, .selects ST IsL.yN IsL.yN, .instanceMethod IsL.yN,
  .methodLink ST 495 LChA.yN, .static LChA.yN, .code LChA.yN LChA.yB 2 (some .char), .initialized "java/lang/StringLatin1", .methodLink "java/lang/StringLatin1" 9 JO.Str_checkIndex.yN, .static JO.Str_checkIndex.yN, .code JO.Str_checkIndex.yN JO.Str_checkIndex.yB 2 none,
  .fieldLink ST 1053 "jdk/internal/util/Preconditions" "SIOOBE_FORMATTER" "Ljava/util/function/BiFunction;", .methodLink ST 1059 JC.PreCheck.yN, .static JC.PreCheck.yN, .code JC.PreCheck.yN JC.PreCheck.yB 3 (some .int), .initialized "jdk/internal/util/Preconditions"]
theorem tabChN_of {a : Array Value} {s : State} (h : ∀ w ∈ wordsChN, w.before a s = true) : ChN.tab.before a s = true := by
  have hp : JC.PreCheck.tab.before a s = true := unparts (wk h (.code JC.PreCheck.yN JC.PreCheck.yB 3 (some .int))) (wks h (.initialized JC.PreCheck.yN.cls :: JC.PreCheck.site))
  have qk := consq hp h
  have hk : JO.Str_checkIndex.tab.before a s = true := unparts (wk qk (.code JO.Str_checkIndex.yN JO.Str_checkIndex.yB 2 none)) (wks qk (.initialized JO.Str_checkIndex.yN.cls :: JO.Str_checkIndex.site))
  have ql := consq hk h
  have hl : LChA.tab.before a s = true := unparts (wk ql (.code LChA.yN LChA.yB 2 (some .char))) (wks ql (.initialized LChA.yN.cls :: LChA.site))
  have hi : IsL.tab.before a s = true := unparts (wk h (.code IsL.yN IsL.yB 1 (some .boolean))) (wks h (.initialized IsL.yN.cls :: IsL.site))
  have q := consq hi (consq hl h)
  exact unparts (wk q (.code ChN.yN ChN.yB 2 (some .char))) (wks q (.initialized ChN.yN.cls :: ChN.site))
theorem movedChN {Z s : State} {a0 args : Array Value} (hZ : Z.Warmed39 s.vm) (hw : ∀ d ∈ wordsChN, d.before a0 Z = true) : ∀ d ∈ wordsChN, d.before args s = true := fun d hd => by
  have t : ∀ d ∈ wordsChN, (d.onTables && d.keepsFace) = true := by decide +kernel
  exact RoadKit.mv hZ (hw d hd) (t d hd)
/-- **charAt(i) OF A LATIN-1 STRING**, i < n: the char -/
theorem chN {p : Program} {l : Launch} {e : Env} {R : Room} {s : State} {args : Array Value} {below : List Frame} {len W : Nat} {Z : State} {a0 : Array Value} {h : Heap} (hZ : Z.Warmed39 s.vm) (hw : ∀ d ∈ wordsChN, d.before a0 Z = true) {kI : Nat} (wi : (Jvm.Cond.instantiable ST kI).before a0 Z = true)
    {x t : Addr} {kb : ClassId} {cs : List Int32} {N2 z : Int32} {vs : List Value} {fm : Value} {i : Nat} {j : Int32} (E : RoadKit.Exa Z h x ST) (V : RoadKit.Fld Z h x ST "value" "[B" (.ref t)) (C : RoadKit.Fld Z h x ST "coder" "B" (.int 0)) (K : RoadKit.Arv Z h t kb .byte N2 vs (.int 0)) (hc : CodA cs 0 N2 vs) (hb : ∀ c ∈ cs, ¬ c < 0 ∧ ¬ (65535 : Int32) < c)
    (S : RoadKit.Sta Z h ST "COMPACT_STRINGS" "Z" (.int z)) (hz : ¬ z = 0) (F : RoadKit.Sta Z h "jdk/internal/util/Preconditions" "SIOOBE_FORMATTER" "Ljava/util/function/BiFunction;" fm) (rf : fm.isRef = true) (l2 : cs.length ≤ 4000) (hi : i < cs.length) (hj : j = Int32.ofNat i) (hfr : 4 ≤ R.frames) (hlo : W + 53 ≤ R.locals) :
    Back l R p e below s args (⟨"java/lang/String", "charAt", "(I)C"⟩ : MethodName) len W (fun P a => a = #[.ref x, .int j] ∧ P.U.heap = h ∧ P.cells + 0 ≤ R.cells ∧ P.slots + 0 ≤ R.slots)
      (fun P _ v B => ∃ L, (v = some (.int (cs.getD i 0)) ∧ L = [] ∧ B.U.heap = h) ∧ B.locs = P.locs ++ L ∧ B.cells = P.cells + 0 ∧ B.slots = P.slots + 0) := by
  subst hj
  intro m meth c P g ig mk a X hg hsize hdg hW hn hp'
  obtain ⟨rfl, rfl, r1, r2⟩ := hp'
  have al : Z.vm.Alike P.U.vm := hZ.alike.trans X.warmed.alike
  obtain ⟨A, hx⟩ := txt_of wi al E V C K hc hb l2
  obtain ⟨v, B, X', ⟨⟨hv, hh⟩, hl, hk, hs⟩, st⟩ := ChN.pays x t A cs.length (fun j => cs.getD j 0) z fm i (tabChN_of (movedChN hZ hw)) hfr hlo m meth c P g ig mk _ X hg hsize hdg hW hn ⟨r1, r2, rfl, hx, hi, sta_is al S, hz, sta_is al F, rf⟩
  exact ⟨v, B, X', ⟨[], ⟨hv, rfl, hh⟩, hl, hk, hs⟩, st⟩
/-- what backV says of its String, as the contracts of this text ask it: cs's low bytes, coder 0 -/
theorem codOf {cs : List Int32} {n : Nat} (hn : cs.length = n) (hb : ∀ c ∈ cs, ¬ 255 < c) : CodA cs 0 (Int32.ofNat n) ((cs.map lo8).map Value.int) := Or.inl ⟨rfl, by rw [hn], by simp [List.map_map, Function.comp_def], hb⟩
end StrChars.Road
end Jvm.Pilot.@@N@@
namespace Jvm.Pilot.@@N@@
open Jvm Jvm.ClassFile Sem Op Lib Jvm.Free Jvm.Stand Jvm.LawKit Jvm.RoadKit Bundle Jvm.Pilot.@@N@@.Jvm.D
abbrev SS (p : Program) (e : Env) (below : List Frame) (T : State) (g : JFrame) (t : State) : Prop := Steps p.tables e below (T.setTop g) t
abbrev vi (x : Int32) : Slot := .val (.int x)
abbrev vl (x : Int64) : Slot := .val (.long x)
abbrev vr (x : Addr) : Slot := .val (.ref x)
abbrev vd (x : UInt64) : Slot := .val (.double x)
abbrev uu : Slot := .unset
abbrev us : Slot := .second
theorem wd {a0 : Array Value} {Z : State} (hw : ∀ d ∈ tables_1, d.before a0 Z = true) (i : Nat) {d : Jvm.Cond} (h : tables_1[i]? = some d) : d.before a0 Z = true := hw _ (List.mem_of_getElem? h)
theorem own_hk {T : State} {h : Heap} {k : Nat} (e : T.heap = h) (q : k ≤ h.size) : k ≤ T.heap.size := e ▸ q
theorem own_reb {p : Program} {l : Launch} {e : Env} {R : Room} {s : State} {m : MethodId} {args : Array Value} {below : List Frame} {meth : Method} {c : Code} {T : State} {L L' : List Loc} {k k' n n' : Nat} (X : Stand p l e R s m args below meth c T L k n) (hl : L = L') (hk : k = k') (hn : n = n') : Stand p l e R s m args below meth c T L' k' n' := by
  subst hl hk hn; exact X
theorem own_szW {h h' : Heap} {a : Addr} {sl : Nat} {v : Value} {k : Nat} (W : Wr h h' a sl v) (q : k ≤ h.size) : k ≤ h'.size := by rw [W.size]; exact q
theorem own_at {T : State} {h : Heap} {a : Addr} {c : Cell} (e : T.heap = h) (q : h[a]? = some c) : T.heap[a]? = some c := e ▸ q
abbrev own_EL : List (String × Nat) := consts_1
theorem own_EW {Z : State} {a0 : Array Value} (hw : ∀ d ∈ tables_1, d.before a0 Z = true) : EW Z a0 own_EL := (EW.cons (wd hw 74 rfl) (by decide) (EW.cons (wd hw 84 rfl) (by decide) (EW.cons (wd hw 85 rfl) (by decide) (EW.cons (wd hw 11 rfl) (by decide) (EW.cons (wd hw 96 rfl) (by decide) (EW.cons (wd hw 97 rfl) (by decide) (EW.cons (wd hw 69 rfl) (by decide) EW.nil)))))))
theorem own_chr {Z : State} {EL : List (String × Nat)} {s T : State} {h0 h : Heap} (hh : s.heap = h0) (e : T.heap = h) (R : CHr Z EL s.vm h0 T.vm h) : CHr Z EL s.vm s.heap T.vm T.heap := by
  subst hh e; exact R
theorem own_safeNull {Z : State} {EL : List (String × Nat)} {vm : Vm} {h : Heap} {x : Addr} (hal : Z.vm.Alike vm) (E : Exa Z h x "java/lang/String") (F : Fld Z h x "java/lang/String" "value" "[B" .null) : Safe Z EL vm h x := fun B => by
  obtain ⟨cell, cf, k, i, f, f1, f2, f3, f4, f5, f6, f7⟩ := F
  obtain ⟨cell', k', e1, e2, e3, -, -⟩ := E
  obtain ⟨p, -, u, a, -, q, -, G, rfl | rfl⟩ := B
  · cases (show h[q.sa]? = some q.sC from G.ha).symm.trans f1
    obtain ⟨cS, ⟨S, -, -⟩, -⟩ := G
    obtain ⟨c', k1, i', g1, -⟩ := S.2.2.2.1
    obtain ⟨k2, g2⟩ := ff_back (U := Wst Z vm h) hal g1
    cases f2.symm.trans g2
    have w := S.2.2.2.2.2.2.2.1
    rw [f7] at w
    cases w
  · cases (show h[q.sd]? = some q.SA from G.hd).symm.trans e1
    obtain ⟨cS, -, -, g, -⟩ := G
    have g' : vm.findClass "[B" = some q.SA.cls := g
    rw [hal.findClass] at g'
    obtain ⟨k1, q1, q2⟩ := Vm.findClass_spec g'
    obtain ⟨k2, q3, q4⟩ := Vm.findClass_spec e2
    cases q1.symm.trans q3
    exact absurd (q2.symm.trans q4) (by decide)
theorem own_up {cs : List Int32} (h : ∀ c ∈ cs, ¬ c < 0 ∧ ¬ (255 : Int32) < c) : ∀ c ∈ cs, ¬ c < 0 ∧ ¬ (65535 : Int32) < c := fun c hc => ⟨(h c hc).1, fun q => (h c hc).2 (Int32.lt_trans (by decide) q)⟩
theorem own_eqv {v : Option Value} {cs ds : List Int32} (h : (v = some (.int 1) ∧ cs = ds) ∨ (v = some (.int 0) ∧ ¬ cs = ds)) : v = some (.int (if cs = ds then (1 : Int32) else (0 : Int32))) := by
  rcases h with ⟨rfl, h⟩ | ⟨rfl, h⟩
  · rw [if_pos h]
  · rw [if_neg h]
theorem own_hp0 : ∀ c ∈ ([64, 116, 121, 112, 101] : List Int32), ¬ c < 0 ∧ ¬ (255 : Int32) < c := by decide
theorem own_hp1 : ∀ c ∈ ([64, 105, 100] : List Int32), ¬ c < 0 ∧ ¬ (255 : Int32) < c := by decide
theorem own_hp2 : ∀ c ∈ ([64, 114, 101, 102] : List Int32), ¬ c < 0 ∧ ¬ (255 : Int32) < c := by decide
def own_d (i : Int32) (w : Int64) : Int32 := nar .char ((((((w.toUInt64 >>> (((8 : Int32) * i) &&& 0x3f).toInt64.toUInt64).toInt64) &&& (255 : Int64)).toInt32)).toUInt32.toUInt16.toUInt32.toInt32)
theorem own_rn {x : Int32} (h : ¬ x < 0 ∧ ¬ (255 : Int32) < x) : 0 ≤ x.toInt ∧ x.toInt ≤ 255 := by
  have e0 : ((0 : Int32)).toInt = 0 := by decide
  have e1 : ((255 : Int32)).toInt = 255 := by decide
  rw [Int32.lt_iff_toInt_lt, Int32.lt_iff_toInt_lt] at h
  omega
theorem own_nr {x : Int32} (h0 : 0 ≤ x.toInt) (h1 : x.toInt ≤ 255) : ¬ x < 0 ∧ ¬ (255 : Int32) < x := by
  have e0 : ((0 : Int32)).toInt = 0 := by decide
  have e1 : ((255 : Int32)).toInt = 255 := by decide
  rw [Int32.lt_iff_toInt_lt, Int32.lt_iff_toInt_lt]
  omega
theorem own_ne {x : Int32} (h : ¬ x < 0 ∧ ¬ (255 : Int32) < x) : nar .char x = x := by
  have q := own_rn h
  have r := c_i2c x
  apply Int32.toInt_inj.mp
  show (x.toUInt32.toUInt16.toUInt32.toInt32).toInt = x.toInt
  omega
theorem own_nb {x : Int32} (h : ¬ x < 0 ∧ ¬ (255 : Int32) < x) : ¬ nar .char x < 0 ∧ ¬ (255 : Int32) < nar .char x := by rw [own_ne h]; exact h
theorem own_db (i : Int32) (w : Int64) : ¬ own_d i w < 0 ∧ ¬ (255 : Int32) < own_d i w := by
  have m := c_maskL ((w.toUInt64 >>> (((8 : Int32) * i) &&& 0x3f).toInt64.toUInt64).toInt64) (255 : Int64) 8 (by decide) (by decide)
  have l := c_l2i (((w.toUInt64 >>> (((8 : Int32) * i) &&& 0x3f).toInt64.toUInt64).toInt64) &&& (255 : Int64))
  have lr := rng32 ((((w.toUInt64 >>> (((8 : Int32) * i) &&& 0x3f).toInt64.toUInt64).toInt64) &&& (255 : Int64)).toInt32)
  have b : ¬ ((((w.toUInt64 >>> (((8 : Int32) * i) &&& 0x3f).toInt64.toUInt64).toInt64) &&& (255 : Int64)).toInt32) < 0 ∧ ¬ (255 : Int32) < ((((w.toUInt64 >>> (((8 : Int32) * i) &&& 0x3f).toInt64.toUInt64).toInt64) &&& (255 : Int64)).toInt32) := own_nr (by omega) (by omega)
  have b2 : ¬ ((((w.toUInt64 >>> (((8 : Int32) * i) &&& 0x3f).toInt64.toUInt64).toInt64) &&& (255 : Int64)).toInt32).toUInt32.toUInt16.toUInt32.toInt32 < 0 ∧ ¬ (255 : Int32) < ((((w.toUInt64 >>> (((8 : Int32) * i) &&& 0x3f).toInt64.toUInt64).toInt64) &&& (255 : Int64)).toInt32).toUInt32.toUInt16.toUInt32.toInt32 := own_nb b
  rw [own_d]
  exact own_nb b2
def own_res (cs : List Int32) : Int32 := if cs = ([64, 116, 121, 112, 101] : List Int32) then 1 else if cs = ([64, 105, 100] : List Int32) then 1 else if cs = ([64, 114, 101, 102] : List Int32) then 1 else 0
theorem own_r0 : own_res ([] : List Int32) = 0 := by simp [own_res]
theorem own_r1 (a : Int32) : own_res ([a] : List Int32) = 0 := by simp [own_res]
theorem own_r2 (a b : Int32) : own_res ([a, b] : List Int32) = 0 := by simp [own_res]
theorem own_r3 (a b c : Int32) : own_res ([a, b, c] : List Int32) = if a = 64 ∧ b = 105 ∧ c = 100 then 1 else 0 := by simp [own_res]
theorem own_r4 (a b c d : Int32) : own_res ([a, b, c, d] : List Int32) = if a = 64 ∧ b = 114 ∧ c = 101 ∧ d = 102 then 1 else 0 := by simp [own_res]
theorem own_r5 (a b c d e : Int32) : own_res ([a, b, c, d, e] : List Int32) = if a = 64 ∧ b = 116 ∧ c = 121 ∧ d = 112 ∧ e = 101 then 1 else 0 := by simp [own_res]
theorem own_r6 (a b c d e f : Int32) : own_res ([a, b, c, d, e, f] : List Int32) = 0 := by simp [own_res]
theorem own_all1 {a0 : Int32} (h0 : ¬ a0 < 0 ∧ ¬ (255 : Int32) < a0) : ∀ q ∈ ([a0] : List Int32), ¬ q < 0 ∧ ¬ (255 : Int32) < q := by
  intro q hq
  simp only [List.mem_cons, List.not_mem_nil, or_false] at hq
  rcases hq with rfl
  · exact h0
theorem own_all2 {a0 a1 : Int32} (h0 : ¬ a0 < 0 ∧ ¬ (255 : Int32) < a0) (h1 : ¬ a1 < 0 ∧ ¬ (255 : Int32) < a1) : ∀ q ∈ ([a0, a1] : List Int32), ¬ q < 0 ∧ ¬ (255 : Int32) < q := by
  intro q hq
  simp only [List.mem_cons, List.not_mem_nil, or_false] at hq
  rcases hq with rfl | rfl
  · exact h0
  · exact h1
theorem own_all3 {a0 a1 a2 : Int32} (h0 : ¬ a0 < 0 ∧ ¬ (255 : Int32) < a0) (h1 : ¬ a1 < 0 ∧ ¬ (255 : Int32) < a1) (h2 : ¬ a2 < 0 ∧ ¬ (255 : Int32) < a2) : ∀ q ∈ ([a0, a1, a2] : List Int32), ¬ q < 0 ∧ ¬ (255 : Int32) < q := by
  intro q hq
  simp only [List.mem_cons, List.not_mem_nil, or_false] at hq
  rcases hq with rfl | rfl | rfl
  · exact h0
  · exact h1
  · exact h2
theorem own_all4 {a0 a1 a2 a3 : Int32} (h0 : ¬ a0 < 0 ∧ ¬ (255 : Int32) < a0) (h1 : ¬ a1 < 0 ∧ ¬ (255 : Int32) < a1) (h2 : ¬ a2 < 0 ∧ ¬ (255 : Int32) < a2) (h3 : ¬ a3 < 0 ∧ ¬ (255 : Int32) < a3) : ∀ q ∈ ([a0, a1, a2, a3] : List Int32), ¬ q < 0 ∧ ¬ (255 : Int32) < q := by
  intro q hq
  simp only [List.mem_cons, List.not_mem_nil, or_false] at hq
  rcases hq with rfl | rfl | rfl | rfl
  · exact h0
  · exact h1
  · exact h2
  · exact h3
theorem own_all5 {a0 a1 a2 a3 a4 : Int32} (h0 : ¬ a0 < 0 ∧ ¬ (255 : Int32) < a0) (h1 : ¬ a1 < 0 ∧ ¬ (255 : Int32) < a1) (h2 : ¬ a2 < 0 ∧ ¬ (255 : Int32) < a2) (h3 : ¬ a3 < 0 ∧ ¬ (255 : Int32) < a3) (h4 : ¬ a4 < 0 ∧ ¬ (255 : Int32) < a4) : ∀ q ∈ ([a0, a1, a2, a3, a4] : List Int32), ¬ q < 0 ∧ ¬ (255 : Int32) < q := by
  intro q hq
  simp only [List.mem_cons, List.not_mem_nil, or_false] at hq
  rcases hq with rfl | rfl | rfl | rfl | rfl
  · exact h0
  · exact h1
  · exact h2
  · exact h3
  · exact h4
theorem own_all6 {a0 a1 a2 a3 a4 a5 : Int32} (h0 : ¬ a0 < 0 ∧ ¬ (255 : Int32) < a0) (h1 : ¬ a1 < 0 ∧ ¬ (255 : Int32) < a1) (h2 : ¬ a2 < 0 ∧ ¬ (255 : Int32) < a2) (h3 : ¬ a3 < 0 ∧ ¬ (255 : Int32) < a3) (h4 : ¬ a4 < 0 ∧ ¬ (255 : Int32) < a4) (h5 : ¬ a5 < 0 ∧ ¬ (255 : Int32) < a5) : ∀ q ∈ ([a0, a1, a2, a3, a4, a5] : List Int32), ¬ q < 0 ∧ ¬ (255 : Int32) < q := by
  intro q hq
  simp only [List.mem_cons, List.not_mem_nil, or_false] at hq
  rcases hq with rfl | rfl | rfl | rfl | rfl | rfl
  · exact h0
  · exact h1
  · exact h2
  · exact h3
  · exact h4
  · exact h5
theorem ef_0 (m : MethodId) (x0 : Int32) (x1 : Int64) : entryFrame m #[(.int x0), (.long x1)] 3 = mkF m 0 #[vi x0, vl x1, us] [] := by first | (simp [entryFrame, mkF, argsToLocals, Value.category]; done) | rfl
theorem pn_0 : plainName "com/example/wireform/wireform/json/JsonIsReservedPinLaw" = true := by first | (simp [plainName, overriddenIn]; done) | decide +kernel
theorem d2_0 : decode method_3_code 0 = .ok (.lload_n 1, 1) := by decide +kernel
theorem d2_1 : decode method_3_code 1 = .ok (.bipush 8, 2) := by decide +kernel
theorem d2_3 : decode method_3_code 3 = .ok (.iload_n 0, 1) := by decide +kernel
theorem d2_4 : decode method_3_code 4 = .ok (.imul, 1) := by decide +kernel
theorem d2_5 : decode method_3_code 5 = .ok (.lushr, 1) := by decide +kernel
theorem d2_6 : decode method_3_code 6 = .ok (.ldc2_w 23, 3) := by decide +kernel
theorem d2_9 : decode method_3_code 9 = .ok (.land, 1) := by decide +kernel
theorem d2_10 : decode method_3_code 10 = .ok (.l2i, 1) := by decide +kernel
theorem d2_11 : decode method_3_code 11 = .ok (.i2c, 1) := by decide +kernel
theorem d2_12 : decode method_3_code 12 = .ok (.ireturn, 1) := by decide +kernel
def Q_rmD (Z : State) (p0 : Int32) (q1 : Int64) (h0 : Heap) (n0 : Nat) (v : Option Value) (h : Heap) (L : List Loc) : Prop := (v = some (.int (own_d p0 q1)) ∧ Fr n0 L ∧ h = h0)
set_option maxRecDepth 65536 in
set_option maxHeartbeats 40000000 in
theorem rmD (l : Launch) (Z : State) (a0 : Array Value) (hw : ∀ d ∈ tables_1, d.before a0 Z = true) (ws : List Jvm.Cond) (p0 : Int32) (q1 : Int64) (h0 : Heap) (n0 : Nat) (Z0 : n0 ≤ h0.size) :
    MetFree l (⟨"com/example/wireform/wireform/json/JsonIsReservedPinLaw", "drawn", "(IJ)C"⟩ : MethodName) (head1 (Jvm.Cond.code (⟨"com/example/wireform/wireform/json/JsonIsReservedPinLaw", "drawn", "(IJ)C"⟩ : MethodName) method_3_code 3 (some .char) :: ws) ({ frames := 0, cells := 0, slots := 0, locals := 0 } : Room)) (fun a U => a = #[(.int p0), (.long q1)] ∧ Z.Warmed39 U.vm ∧ U.heap = h0) (fun _ _ _ _ _ => True) (fun _ U o U' => ∃ v L, o = .returned v ∧ Q_rmD Z p0 q1 h0 n0 v U'.heap L ∧ FrameEnd U o U' L ({ frames := 0, cells := 0, slots := 0, locals := 0 } : Room).cells ({ frames := 0, cells := 0, slots := 0, locals := 0 } : Room).slots) := by
  refine MetFree.of_bodySF (plainFor_of_name pn_0) hisR ?_
  intro p e s m args below meth c s₁ Bd hml0 hP hK
  obtain ⟨rfl, hZ, hh⟩ := hP
  have hx := Bd.exec
  have hby := Bd.bytes
  have hml : c.maxLocals = 3 := hml0
  have hown : s.vm.findClass "com/example/wireform/wireform/json/JsonIsReservedPinLaw" = some m.cls := findClass_of_methodNamed Bd.named
  have hnm := (name_of_methodNamed Bd.named Bd.method).1
  have X0 : Stand p l e ({ frames := 0, cells := 0, slots := 0, locals := 0 } : Room) s m #[(.int p0), (.long q1)] below meth c s₁ [] 0 0 := Stand.of_body Bd
  have e0 : s₁.heap = h0 := by rw [← hh, Bd.state]; rfl
  have N0 := Fr.nil n0
  have pre0 : ∀ t, Steps p.tables e below (s₁.setTop (mkF m 0 #[vi p0, vl q1, us] [])) t → Steps p.tables e below (s₁.setTop (entryFrame m #[(.int p0), (.long q1)] 3)) t := fun t k => castTop (ef_0 m p0 q1) k
  obtain ⟨fs, hr, hrun, hended, hW, hsame⟩ := X0.leave (v := some (.int (nar .char (((((q1.toUInt64 >>> (((8 : Int32) * p0) &&& 0x3f).toInt64.toUInt64).toInt64) &&& (255 : Int64)).toInt32).toUInt32.toUInt16.toUInt32.toInt32)))) (fun h => by rw [Bd.returns] at h; cases h)
  refine ⟨_, _, pre0 _ ?_, hrun, hended, _, _, rfl, ?_, ⟨_, rfl⟩, hW, hsame.mono (by decide) (by decide)⟩
  · show SS p e below s₁ (mkF m 0 #[vi p0, vl q1, us] []) _
    refine XS.lloadN X0.here hx rfl (hb hby d2_0) rfl ?_
    show SS p e below s₁ (mkF m 1 #[vi p0, vl q1, us] [(.long q1)]) _
    refine XS.bipush X0.here hx rfl (hb hby d2_1) ?_
    show SS p e below s₁ (mkF m 3 #[vi p0, vl q1, us] [(.int (8 : Int32)), (.long q1)]) _
    refine XS.iloadN X0.here hx rfl (hb hby d2_3) rfl ?_
    show SS p e below s₁ (mkF m 4 #[vi p0, vl q1, us] [(.int p0), (.int (8 : Int32)), (.long q1)]) _
    refine XS.imul X0.here hx rfl (hb hby d2_4) rfl ?_
    show SS p e below s₁ (mkF m 5 #[vi p0, vl q1, us] [(.int ((8 : Int32) * p0)), (.long q1)]) _
    refine XS.lushr X0.here hx rfl (hb hby d2_5) rfl ?_
    show SS p e below s₁ (mkF m 6 #[vi p0, vl q1, us] [(.long ((q1.toUInt64 >>> (((8 : Int32) * p0) &&& 0x3f).toInt64.toUInt64).toInt64))]) _
    refine X0.ldc2Long hx hown (mvT hZ (wd hw 7 rfl)) (g := (mkF m 6 #[vi p0, vl q1, us] [(.long ((q1.toUInt64 >>> (((8 : Int32) * p0) &&& 0x3f).toInt64.toUInt64).toInt64))])) rfl (hb hby d2_6) _ ?_
    show SS p e below s₁ (mkF m 9 #[vi p0, vl q1, us] [(.long (255 : Int64)), (.long ((q1.toUInt64 >>> (((8 : Int32) * p0) &&& 0x3f).toInt64.toUInt64).toInt64))]) _
    refine XS.land X0.here hx rfl (hb hby d2_9) rfl ?_
    show SS p e below s₁ (mkF m 10 #[vi p0, vl q1, us] [(.long (((q1.toUInt64 >>> (((8 : Int32) * p0) &&& 0x3f).toInt64.toUInt64).toInt64) &&& (255 : Int64)))]) _
    refine XS.l2i X0.here hx rfl (hb hby d2_10) rfl ?_
    show SS p e below s₁ (mkF m 11 #[vi p0, vl q1, us] [(.int ((((q1.toUInt64 >>> (((8 : Int32) * p0) &&& 0x3f).toInt64.toUInt64).toInt64) &&& (255 : Int64)).toInt32))]) _
    refine XS.i2c X0.here hx rfl (hb hby d2_11) rfl ?_
    show SS p e below s₁ (mkF m 12 #[vi p0, vl q1, us] [(.int (((((q1.toUInt64 >>> (((8 : Int32) * p0) &&& 0x3f).toInt64.toUInt64).toInt64) &&& (255 : Int64)).toInt32).toUInt32.toUInt16.toUInt32.toInt32))]) _
    exact retN X0 hx (t := .char) Bd.returns (by simp) (hb hby d2_12) hr
  · show Q_rmD Z p0 q1 h0 n0 _ s₁.heap _
    rw [e0]
    exact ⟨rfl, N0, rfl⟩
theorem ef_1 (m : MethodId) (x0 : Int32) : entryFrame m #[(.int x0), (.int (0 : Int32))] 3 = mkF m 0 #[vi x0, vi (0 : Int32), uu] [] := by first | (simp [entryFrame, mkF, argsToLocals, Value.category]; done) | rfl
theorem d3_0 : decode method_4_code 0 = .ok (.iload_n 0, 1) := by decide +kernel
theorem d3_1 : decode method_4_code 1 = .ok (.ifCond .ne 24, 3) := by decide +kernel
theorem d3_4 : decode method_4_code 4 = .ok (.ldc 25, 2) := by decide +kernel
theorem own_strAtoms : ∀ d ∈ Bundle.stringAtoms, d ∈ tables_1 := by decide +kernel
theorem d3_6 : decode method_4_code 6 = .ok (.astore_n 2, 1) := by decide +kernel
theorem d3_7 : decode method_4_code 7 = .ok (.iload_n 1, 1) := by decide +kernel
theorem d3_8 : decode method_4_code 8 = .ok (.aload_n 2, 1) := by decide +kernel
theorem d3_9 : decode method_4_code 9 = .ok (.invokevirtual 27, 3) := by decide +kernel
theorem own_w_wordsLen : ∀ d ∈ StrChars.Road.wordsLen, d ∈ tables_1 := by decide +kernel
theorem pd_0 : parseMethodDescriptor "()I" = some ⟨[], some .int⟩ := by decide +kernel
theorem d3_12 : decode method_4_code 12 = .ok (.if_icmp .ge 11, 3) := by decide +kernel
theorem d3_15 : decode method_4_code 15 = .ok (.aload_n 2, 1) := by decide +kernel
theorem d3_16 : decode method_4_code 16 = .ok (.iload_n 1, 1) := by decide +kernel
theorem d3_17 : decode method_4_code 17 = .ok (.invokevirtual 33, 3) := by decide +kernel
theorem own_w_wordsChN : ∀ d ∈ StrChars.Road.wordsChN, d ∈ tables_1 := by decide +kernel
theorem pd_1 : parseMethodDescriptor "(I)C" = some ⟨[.int], some .char⟩ := by decide +kernel
theorem d3_20 : decode method_4_code 20 = .ok (.goto 4, 3) := by decide +kernel
theorem d3_24 : decode method_4_code 24 = .ok (.ireturn, 1) := by decide +kernel
theorem d3_25 : decode method_4_code 25 = .ok (.iload_n 0, 1) := by decide +kernel
theorem d3_26 : decode method_4_code 26 = .ok (.iconst 1, 1) := by decide +kernel
theorem d3_27 : decode method_4_code 27 = .ok (.if_icmp .ne 24, 3) := by decide +kernel
theorem d3_30 : decode method_4_code 30 = .ok (.ldc 37, 2) := by decide +kernel
theorem d3_32 : decode method_4_code 32 = .ok (.astore_n 2, 1) := by decide +kernel
theorem d3_33 : decode method_4_code 33 = .ok (.iload_n 1, 1) := by decide +kernel
theorem d3_34 : decode method_4_code 34 = .ok (.aload_n 2, 1) := by decide +kernel
theorem d3_35 : decode method_4_code 35 = .ok (.invokevirtual 27, 3) := by decide +kernel
theorem d3_38 : decode method_4_code 38 = .ok (.if_icmp .ge 11, 3) := by decide +kernel
theorem d3_41 : decode method_4_code 41 = .ok (.aload_n 2, 1) := by decide +kernel
theorem d3_42 : decode method_4_code 42 = .ok (.iload_n 1, 1) := by decide +kernel
theorem d3_43 : decode method_4_code 43 = .ok (.invokevirtual 33, 3) := by decide +kernel
theorem d3_46 : decode method_4_code 46 = .ok (.goto 4, 3) := by decide +kernel
theorem d3_50 : decode method_4_code 50 = .ok (.ireturn, 1) := by decide +kernel
theorem d3_51 : decode method_4_code 51 = .ok (.iload_n 0, 1) := by decide +kernel
theorem d3_52 : decode method_4_code 52 = .ok (.iconst 2, 1) := by decide +kernel
theorem d3_53 : decode method_4_code 53 = .ok (.if_icmp .ne 24, 3) := by decide +kernel
theorem d3_56 : decode method_4_code 56 = .ok (.ldc 39, 2) := by decide +kernel
theorem d3_58 : decode method_4_code 58 = .ok (.astore_n 2, 1) := by decide +kernel
theorem d3_59 : decode method_4_code 59 = .ok (.iload_n 1, 1) := by decide +kernel
theorem d3_60 : decode method_4_code 60 = .ok (.aload_n 2, 1) := by decide +kernel
theorem d3_61 : decode method_4_code 61 = .ok (.invokevirtual 27, 3) := by decide +kernel
theorem d3_64 : decode method_4_code 64 = .ok (.if_icmp .ge 11, 3) := by decide +kernel
theorem d3_67 : decode method_4_code 67 = .ok (.aload_n 2, 1) := by decide +kernel
theorem d3_68 : decode method_4_code 68 = .ok (.iload_n 1, 1) := by decide +kernel
theorem d3_69 : decode method_4_code 69 = .ok (.invokevirtual 33, 3) := by decide +kernel
theorem d3_72 : decode method_4_code 72 = .ok (.goto 4, 3) := by decide +kernel
theorem d3_76 : decode method_4_code 76 = .ok (.ireturn, 1) := by decide +kernel
theorem d3_77 : decode method_4_code 77 = .ok (.iconst 0, 1) := by decide +kernel
theorem d3_78 : decode method_4_code 78 = .ok (.ireturn, 1) := by decide +kernel
def Q_rmT0 (Z : State) (p0 : Int32) (zc : Int32) (fm : Value) (h0 : Heap) (n0 : Nat) (v : Option Value) (h : Heap) (L : List Loc) : Prop := ∃ (cv : Int32), (v = some (.int cv) ∧ Fr n0 L ∧ Keep h0 h [] ∧ ¬ cv < 0 ∧ ¬ (255 : Int32) < cv)
set_option maxRecDepth 65536 in
set_option maxHeartbeats 40000000 in
theorem rmT0 (l : Launch) (Z : State) (a0 : Array Value) (hw : ∀ d ∈ tables_1, d.before a0 Z = true) (ws : List Jvm.Cond) (p0 : Int32) (zc : Int32) (fm : Value) (h0 : Heap) (n0 : Nat) (Z0 : n0 ≤ h0.size) (uO : Old Z n0 h0) (uS : Sta Z Z.heap "java/lang/String" "COMPACT_STRINGS" "Z" (.int zc)) (uF : Sta Z Z.heap "jdk/internal/util/Preconditions" "SIOOBE_FORMATTER" "Ljava/util/function/BiFunction;" fm) (uP : ¬ zc = 0) (uR : fm.isRef = true) :
    MetFree l (⟨"com/example/wireform/wireform/json/JsonIsReservedPinLaw", "templ", "(II)C"⟩ : MethodName) (head1 (Jvm.Cond.code (⟨"com/example/wireform/wireform/json/JsonIsReservedPinLaw", "templ", "(II)C"⟩ : MethodName) method_4_code 3 (some .char) :: ws) ({ frames := 4, cells := 2, slots := 24, locals := 53 } : Room)) (fun a U => a = #[(.int p0), (.int (0 : Int32))] ∧ Z.Warmed39 U.vm ∧ U.heap = h0 ∧ CHv Z own_EL U.vm h0) (fun _ _ _ _ _ => True) (fun _ U o U' => ∃ v L, o = .returned v ∧ Q_rmT0 Z p0 zc fm h0 n0 v U'.heap L ∧ CHr Z own_EL U.vm U.heap U'.vm U'.heap ∧ ReturnedEndW U o U' L ({ frames := 4, cells := 2, slots := 24, locals := 53 } : Room).cells ({ frames := 4, cells := 2, slots := 24, locals := 53 } : Room).slots) := by
  refine MetFree.of_bodySF (plainFor_of_name pn_0) hisR ?_
  intro p e s m args below meth c s₁ Bd hml0 hP hK
  obtain ⟨rfl, hZ, hh, hC0⟩ := hP
  have hx := Bd.exec
  have hby := Bd.bytes
  have hml : c.maxLocals = 3 := hml0
  have hown : s.vm.findClass "com/example/wireform/wireform/json/JsonIsReservedPinLaw" = some m.cls := findClass_of_methodNamed Bd.named
  have hnm := (name_of_methodNamed Bd.named Bd.method).1
  have X0 : Stand p l e ({ frames := 4, cells := 2, slots := 24, locals := 53 } : Room) (s.setVm s.vm) m #[(.int p0), (.int (0 : Int32))] below meth c s₁ [] 0 0 := Stand.of_body Bd
  have e0 : s₁.heap = h0 := by rw [← hh, Bd.state]; rfl
  have N0 := Fr.nil n0
  have pre0 : ∀ t, Steps p.tables e below (s₁.setTop (mkF m 0 #[vi p0, vi (0 : Int32), uu] [])) t → Steps p.tables e below (s₁.setTop (entryFrame m #[(.int p0), (.int (0 : Int32))] 3)) t := fun t k => castTop (ef_1 m p0) k
  have hS0 : s.Since s.vm 0 := (State.WarmedH.refl s).since _
  have hk0 : 0 ≤ h0.size := Nat.zero_le _
  have R0 := CHr.refl hC0
  by_cases hq_0 : p0 = (0 : Int32)
  · obtain ⟨b1, T1, h1, kk1, t1, kc1, X1, e1, E1, hS1, hk1, hZ1, hown1, fE1, fC1, fV1, fK1, lta1, ltb1, CH1, -, SF1, st1⟩ := ldcCH X0 hx hZ hown (wd hw 11 rfl) (fun d hd => hw d (own_strAtoms d hd)) e0 hS0 hk0 (own_EW hw) (by decide) hC0 (vs := [(.int (64 : Int32)), (.int (116 : Int32)), (.int (121 : Int32)), (.int (112 : Int32)), (.int (101 : Int32))]) (z := (5 : Int32)) ⟨by decide, by decide⟩ (by decide) (by decide) (g := (mkF m 4 #[vi p0, vi (0 : Int32), uu] [])) rfl (hb hby d3_4) (n := 20) (by decide) (by decide) (by decide) (by decide)
    have Re2 := R0.trans CH1
    have hCe2 := Re2.1
    have K1 : Keep h0 h1 [] := (Keep.refl h0 []).ext E1
    have Z1 : n0 ≤ h1.size := Nat.le_trans Z0 E1.1
    have c4 := (uO.ext E1)
    obtain ⟨cq3, kq3, q3a, q3b, q3c⟩ := isOf hZ1 e1 fE1
    obtain ⟨_, _, ⟨T3, Lw3, kw3, nw3⟩, -, X3, ⟨Lc3, hQ3, lq3, yq3, zq3⟩, st3⟩ := X1.virtualBack hx (y := (⟨"java/lang/String", "length", "()I"⟩ : MethodName)) (z := (⟨"java/lang/String", "length", "()I"⟩ : MethodName)) hown1 (mvT hZ1 (wd hw 19 rfl)) (mvT hZ1 (wd hw 20 rfl)) (notFace_of_selects (args := #[]) (mvT hZ1 (wd hw 22 rfl))) (mvT hZ1 (wd hw 22 rfl)) (mvT hZ1 (wd hw 21 rfl)) (by decide) (StrChars.Road.lenW (W := 1) hZ1 (fun d hd => hw d (own_w_wordsLen d hd)) (kI := 4) (wd hw 13 rfl) fE1 fV1 fC1 fK1 (StrChars.Road.codOf (cs := ([64, 116, 121, 112, 101] : List Int32)) (n := 5) rfl (fun c hc => (own_hp0 c hc).2)) (own_up own_hp0) (uS.ext c4.2) uP (Nat.le_of_ble_eq_true rfl) (by decide) (by decide)) q3a q3c (g := (mkF m 9 #[vi p0, vi (0 : Int32), vr b1] [(.ref b1), (.int (0 : Int32))])) rfl (by rw [hml]; rfl) (Steps.refl _) (argsL := []) (rest := [(.int (0 : Int32))]) (lenOf pd_0 rfl) rfl (by show 2 * 0 + _ ≤ _; exact Nat.le_of_eq rfl) (hb hby d3_9) (fun _ _ => ⟨rfl, e1, (by decide : 2 + 0 ≤ _), (by decide : 24 + 0 ≤ _)⟩)
    dsimp only [Pt.U, Pt.locs, Pt.cells, Pt.slots] at X3 lq3 yq3 zq3 st3 hQ3
    have X3 := own_reb X3 lq3 yq3 zq3
    obtain ⟨rfl, rfl, eh3⟩ := hQ3
    have N3 := Fr.app N0 (Fr.nil n0)
    obtain ⟨cq5, kq5, q5a, q5b, q5c⟩ := isOf hZ1 eh3 fE1
    obtain ⟨_, _, ⟨T5, Lw5, kw5, nw5⟩, -, X5, ⟨Lc5, hQ5, lq5, yq5, zq5⟩, st5⟩ := X3.virtualBack hx (y := (⟨"java/lang/String", "charAt", "(I)C"⟩ : MethodName)) (z := (⟨"java/lang/String", "charAt", "(I)C"⟩ : MethodName)) hown1 (mvT hZ1 (wd hw 32 rfl)) (mvT hZ1 (wd hw 33 rfl)) (notFace_of_selects (args := #[]) (mvT hZ1 (wd hw 35 rfl))) (mvT hZ1 (wd hw 35 rfl)) (mvT hZ1 (wd hw 34 rfl)) (by decide) (StrChars.Road.chN (W := 0) hZ1 (fun d hd => hw d (own_w_wordsChN d hd)) (kI := 4) (wd hw 13 rfl) fE1 fV1 fC1 fK1 (StrChars.Road.codOf (cs := ([64, 116, 121, 112, 101] : List Int32)) (n := 5) rfl (fun c hc => (own_hp0 c hc).2)) (own_up own_hp0) (uS.ext c4.2) uP (uF.ext c4.2) uR (Nat.le_of_ble_eq_true rfl) (i := 0) (Nat.le_of_ble_eq_true rfl) (j := (0 : Int32)) rfl (by decide) (by decide)) q5a q5c (g := (mkF m 17 #[vi p0, vi (0 : Int32), vr b1] [(.int (0 : Int32)), (.ref b1)])) rfl (by rw [hml]; rfl) (Steps.refl _) (argsL := [(.int (0 : Int32))]) (rest := []) (lenOf pd_1 rfl) rfl (by show 2 * 0 + _ ≤ _; exact Nat.le_of_eq rfl) (hb hby d3_17) (fun _ _ => ⟨rfl, eh3, (by decide : 2 + 0 ≤ _), (by decide : 24 + 0 ≤ _)⟩)
    dsimp only [Pt.U, Pt.locs, Pt.cells, Pt.slots] at X5 lq5 yq5 zq5 st5 hQ5
    have X5 := own_reb X5 lq5 yq5 zq5
    obtain ⟨rfl, rfl, eh5⟩ := hQ5
    have N5 := Fr.app N3 (Fr.nil n0)
    obtain ⟨fs, hr, hrun, hended, en1, en2, en3, en4⟩ := X5.leaveW hS1 (own_hk eh5 hk1) (v := some (.int (nar .char (64 : Int32)))) (fun h => by rw [Bd.returns] at h; cases h)
    refine ⟨_, _, pre0 _ ?_, hrun, hended, _, _, rfl, ?_, own_chr (T := T5) hh eh5 (Re2.trans (CHv.at X5 hZ1 (own_EW hw) hCe2)), en1, en2, en3, en4.mono (by decide) (by decide)⟩
    · show SS p e below s₁ (mkF m 0 #[vi p0, vi (0 : Int32), uu] []) _
      refine XS.iloadN X0.here hx rfl (hb hby d3_0) rfl ?_
      show SS p e below s₁ (mkF m 1 #[vi p0, vi (0 : Int32), uu] [(.int p0)]) _
      refine XS.ifNo X0.here hx rfl (hb hby d3_1) rfl ((if0 _ _).trans (teq (hq_0 : p0 = (0 : Int32))).2) ?_
      show SS p e below s₁ (mkF m 4 #[vi p0, vi (0 : Int32), uu] []) _
      refine st1 _ ?_
      show SS p e below T1 (mkF m 6 #[vi p0, vi (0 : Int32), uu] [(.ref b1)]) _
      refine XS.astoreN X1.here hx rfl (hb hby d3_6) rfl rfl (l' := #[vi p0, vi (0 : Int32), vr b1]) rfl ?_
      show SS p e below T1 (mkF m 7 #[vi p0, vi (0 : Int32), vr b1] []) _
      refine XS.iloadN X1.here hx rfl (hb hby d3_7) rfl ?_
      show SS p e below T1 (mkF m 8 #[vi p0, vi (0 : Int32), vr b1] [(.int (0 : Int32))]) _
      refine XS.aloadN X1.here hx rfl (hb hby d3_8) rfl rfl ?_
      show SS p e below T1 (mkF m 9 #[vi p0, vi (0 : Int32), vr b1] [(.ref b1), (.int (0 : Int32))]) _
      refine st3.trans ?_
      show SS p e below T3 (mkF m 12 #[vi p0, vi (0 : Int32), vr b1] [(.int (5 : Int32)), (.int (0 : Int32))]) _
      refine XS.icmpNo X3.here hx rfl (hb hby d3_12) rfl (tlt (by decide : (0 : Int32) < (5 : Int32))).2.1 ?_
      show SS p e below T3 (mkF m 15 #[vi p0, vi (0 : Int32), vr b1] []) _
      refine XS.aloadN X3.here hx rfl (hb hby d3_15) rfl rfl ?_
      show SS p e below T3 (mkF m 16 #[vi p0, vi (0 : Int32), vr b1] [(.ref b1)]) _
      refine XS.iloadN X3.here hx rfl (hb hby d3_16) rfl ?_
      show SS p e below T3 (mkF m 17 #[vi p0, vi (0 : Int32), vr b1] [(.int (0 : Int32)), (.ref b1)]) _
      refine st5.trans ?_
      show SS p e below T5 (mkF m 20 #[vi p0, vi (0 : Int32), vr b1] [(.int (64 : Int32))]) _
      refine XS.goto X5.here hx rfl (pc0 := 20) (pc' := 24) rfl (hb hby d3_20) (by decide) (by decide) ?_
      show SS p e below T5 (mkF m 24 #[vi p0, vi (0 : Int32), vr b1] [(.int (64 : Int32))]) _
      exact retN X5 hx (t := .char) Bd.returns (by simp) (hb hby d3_24) hr
    · show Q_rmT0 Z p0 zc fm h0 n0 _ T5.heap _
      rw [eh5]
      exact ⟨(nar .char (64 : Int32)), rfl, N5, K1, (by decide)⟩
  · have sg6 : ∀ target, SS p e below s₁ (mkF m 27 #[vi p0, vi (0 : Int32), uu] [(.int (1 : Int32)), (.int p0)]) target → SS p e below s₁ (mkF m 0 #[vi p0, vi (0 : Int32), uu] []) target := by
      intro target kt
      show SS p e below s₁ (mkF m 0 #[vi p0, vi (0 : Int32), uu] []) _
      refine XS.iloadN X0.here hx rfl (hb hby d3_0) rfl ?_
      show SS p e below s₁ (mkF m 1 #[vi p0, vi (0 : Int32), uu] [(.int p0)]) _
      refine XS.ifYes X0.here hx rfl (pc0 := 1) (pc' := 25) rfl (hb hby d3_1) rfl ((if0 _ _).trans (feq (hq_0 : ¬ (p0 = (0 : Int32)))).2) (by decide) (by decide) ?_
      show SS p e below s₁ (mkF m 25 #[vi p0, vi (0 : Int32), uu] []) _
      refine XS.iloadN X0.here hx rfl (hb hby d3_25) rfl ?_
      show SS p e below s₁ (mkF m 26 #[vi p0, vi (0 : Int32), uu] [(.int p0)]) _
      refine XS.iconst X0.here hx rfl (hb hby d3_26) ?_
      exact kt
    by_cases hq_1 : p0 = (1 : Int32)
    · obtain ⟨b7, T7, h7, kk7, t7, kc7, X7, e7, E7, hS7, hk7, hZ7, hown7, fE7, fC7, fV7, fK7, lta7, ltb7, CH7, -, SF7, st7⟩ := ldcCH X0 hx hZ hown (wd hw 96 rfl) (fun d hd => hw d (own_strAtoms d hd)) e0 hS0 hk0 (own_EW hw) (by decide) hC0 (vs := [(.int (64 : Int32)), (.int (105 : Int32)), (.int (100 : Int32))]) (z := (3 : Int32)) ⟨by decide, by decide⟩ (by decide) (by decide) (g := (mkF m 30 #[vi p0, vi (0 : Int32), uu] [])) rfl (hb hby d3_30) (n := 12) (by decide) (by decide) (by decide) (by decide)
      have Re8 := R0.trans CH7
      have hCe8 := Re8.1
      have K7 : Keep h0 h7 [] := (Keep.refl h0 []).ext E7
      have Z7 : n0 ≤ h7.size := Nat.le_trans Z0 E7.1
      have c10 := (uO.ext E7)
      obtain ⟨cq9, kq9, q9a, q9b, q9c⟩ := isOf hZ7 e7 fE7
      obtain ⟨_, _, ⟨T9, Lw9, kw9, nw9⟩, -, X9, ⟨Lc9, hQ9, lq9, yq9, zq9⟩, st9⟩ := X7.virtualBack hx (y := (⟨"java/lang/String", "length", "()I"⟩ : MethodName)) (z := (⟨"java/lang/String", "length", "()I"⟩ : MethodName)) hown7 (mvT hZ7 (wd hw 19 rfl)) (mvT hZ7 (wd hw 20 rfl)) (notFace_of_selects (args := #[]) (mvT hZ7 (wd hw 22 rfl))) (mvT hZ7 (wd hw 22 rfl)) (mvT hZ7 (wd hw 21 rfl)) (by decide) (StrChars.Road.lenW (W := 1) hZ7 (fun d hd => hw d (own_w_wordsLen d hd)) (kI := 4) (wd hw 13 rfl) fE7 fV7 fC7 fK7 (StrChars.Road.codOf (cs := ([64, 105, 100] : List Int32)) (n := 3) rfl (fun c hc => (own_hp1 c hc).2)) (own_up own_hp1) (uS.ext c10.2) uP (Nat.le_of_ble_eq_true rfl) (by decide) (by decide)) q9a q9c (g := (mkF m 35 #[vi p0, vi (0 : Int32), vr b7] [(.ref b7), (.int (0 : Int32))])) rfl (by rw [hml]; rfl) (Steps.refl _) (argsL := []) (rest := [(.int (0 : Int32))]) (lenOf pd_0 rfl) rfl (by show 2 * 0 + _ ≤ _; exact Nat.le_of_eq rfl) (hb hby d3_35) (fun _ _ => ⟨rfl, e7, (by decide : 2 + 0 ≤ _), (by decide : 16 + 0 ≤ _)⟩)
      dsimp only [Pt.U, Pt.locs, Pt.cells, Pt.slots] at X9 lq9 yq9 zq9 st9 hQ9
      have X9 := own_reb X9 lq9 yq9 zq9
      obtain ⟨rfl, rfl, eh9⟩ := hQ9
      have N9 := Fr.app N0 (Fr.nil n0)
      obtain ⟨cq11, kq11, q11a, q11b, q11c⟩ := isOf hZ7 eh9 fE7
      obtain ⟨_, _, ⟨T11, Lw11, kw11, nw11⟩, -, X11, ⟨Lc11, hQ11, lq11, yq11, zq11⟩, st11⟩ := X9.virtualBack hx (y := (⟨"java/lang/String", "charAt", "(I)C"⟩ : MethodName)) (z := (⟨"java/lang/String", "charAt", "(I)C"⟩ : MethodName)) hown7 (mvT hZ7 (wd hw 32 rfl)) (mvT hZ7 (wd hw 33 rfl)) (notFace_of_selects (args := #[]) (mvT hZ7 (wd hw 35 rfl))) (mvT hZ7 (wd hw 35 rfl)) (mvT hZ7 (wd hw 34 rfl)) (by decide) (StrChars.Road.chN (W := 0) hZ7 (fun d hd => hw d (own_w_wordsChN d hd)) (kI := 4) (wd hw 13 rfl) fE7 fV7 fC7 fK7 (StrChars.Road.codOf (cs := ([64, 105, 100] : List Int32)) (n := 3) rfl (fun c hc => (own_hp1 c hc).2)) (own_up own_hp1) (uS.ext c10.2) uP (uF.ext c10.2) uR (Nat.le_of_ble_eq_true rfl) (i := 0) (Nat.le_of_ble_eq_true rfl) (j := (0 : Int32)) rfl (by decide) (by decide)) q11a q11c (g := (mkF m 43 #[vi p0, vi (0 : Int32), vr b7] [(.int (0 : Int32)), (.ref b7)])) rfl (by rw [hml]; rfl) (Steps.refl _) (argsL := [(.int (0 : Int32))]) (rest := []) (lenOf pd_1 rfl) rfl (by show 2 * 0 + _ ≤ _; exact Nat.le_of_eq rfl) (hb hby d3_43) (fun _ _ => ⟨rfl, eh9, (by decide : 2 + 0 ≤ _), (by decide : 16 + 0 ≤ _)⟩)
      dsimp only [Pt.U, Pt.locs, Pt.cells, Pt.slots] at X11 lq11 yq11 zq11 st11 hQ11
      have X11 := own_reb X11 lq11 yq11 zq11
      obtain ⟨rfl, rfl, eh11⟩ := hQ11
      have N11 := Fr.app N9 (Fr.nil n0)
      obtain ⟨fs, hr, hrun, hended, en1, en2, en3, en4⟩ := X11.leaveW hS7 (own_hk eh11 hk7) (v := some (.int (nar .char (64 : Int32)))) (fun h => by rw [Bd.returns] at h; cases h)
      refine ⟨_, _, pre0 _ ?_, hrun, hended, _, _, rfl, ?_, own_chr (T := T11) hh eh11 (Re8.trans (CHv.at X11 hZ7 (own_EW hw) hCe8)), en1, en2, en3, en4.mono (by decide) (by decide)⟩
      · refine sg6 _ ?_
        show SS p e below s₁ (mkF m 27 #[vi p0, vi (0 : Int32), uu] [(.int (1 : Int32)), (.int p0)]) _
        refine XS.icmpNo X0.here hx rfl (hb hby d3_27) rfl (teq (hq_1 : p0 = (1 : Int32))).2 ?_
        show SS p e below s₁ (mkF m 30 #[vi p0, vi (0 : Int32), uu] []) _
        refine st7 _ ?_
        show SS p e below T7 (mkF m 32 #[vi p0, vi (0 : Int32), uu] [(.ref b7)]) _
        refine XS.astoreN X7.here hx rfl (hb hby d3_32) rfl rfl (l' := #[vi p0, vi (0 : Int32), vr b7]) rfl ?_
        show SS p e below T7 (mkF m 33 #[vi p0, vi (0 : Int32), vr b7] []) _
        refine XS.iloadN X7.here hx rfl (hb hby d3_33) rfl ?_
        show SS p e below T7 (mkF m 34 #[vi p0, vi (0 : Int32), vr b7] [(.int (0 : Int32))]) _
        refine XS.aloadN X7.here hx rfl (hb hby d3_34) rfl rfl ?_
        show SS p e below T7 (mkF m 35 #[vi p0, vi (0 : Int32), vr b7] [(.ref b7), (.int (0 : Int32))]) _
        refine st9.trans ?_
        show SS p e below T9 (mkF m 38 #[vi p0, vi (0 : Int32), vr b7] [(.int (3 : Int32)), (.int (0 : Int32))]) _
        refine XS.icmpNo X9.here hx rfl (hb hby d3_38) rfl (tlt (by decide : (0 : Int32) < (3 : Int32))).2.1 ?_
        show SS p e below T9 (mkF m 41 #[vi p0, vi (0 : Int32), vr b7] []) _
        refine XS.aloadN X9.here hx rfl (hb hby d3_41) rfl rfl ?_
        show SS p e below T9 (mkF m 42 #[vi p0, vi (0 : Int32), vr b7] [(.ref b7)]) _
        refine XS.iloadN X9.here hx rfl (hb hby d3_42) rfl ?_
        show SS p e below T9 (mkF m 43 #[vi p0, vi (0 : Int32), vr b7] [(.int (0 : Int32)), (.ref b7)]) _
        refine st11.trans ?_
        show SS p e below T11 (mkF m 46 #[vi p0, vi (0 : Int32), vr b7] [(.int (64 : Int32))]) _
        refine XS.goto X11.here hx rfl (pc0 := 46) (pc' := 50) rfl (hb hby d3_46) (by decide) (by decide) ?_
        show SS p e below T11 (mkF m 50 #[vi p0, vi (0 : Int32), vr b7] [(.int (64 : Int32))]) _
        exact retN X11 hx (t := .char) Bd.returns (by simp) (hb hby d3_50) hr
      · show Q_rmT0 Z p0 zc fm h0 n0 _ T11.heap _
        rw [eh11]
        exact ⟨(nar .char (64 : Int32)), rfl, N11, K7, (by decide)⟩
    · have sg12 : ∀ target, SS p e below s₁ (mkF m 53 #[vi p0, vi (0 : Int32), uu] [(.int (2 : Int32)), (.int p0)]) target → SS p e below s₁ (mkF m 27 #[vi p0, vi (0 : Int32), uu] [(.int (1 : Int32)), (.int p0)]) target := by
        intro target kt
        show SS p e below s₁ (mkF m 27 #[vi p0, vi (0 : Int32), uu] [(.int (1 : Int32)), (.int p0)]) _
        refine XS.icmpYes X0.here hx rfl (pc0 := 27) (pc' := 51) rfl (hb hby d3_27) rfl (feq (hq_1 : ¬ (p0 = (1 : Int32)))).2 (by decide) (by decide) ?_
        show SS p e below s₁ (mkF m 51 #[vi p0, vi (0 : Int32), uu] []) _
        refine XS.iloadN X0.here hx rfl (hb hby d3_51) rfl ?_
        show SS p e below s₁ (mkF m 52 #[vi p0, vi (0 : Int32), uu] [(.int p0)]) _
        refine XS.iconst X0.here hx rfl (hb hby d3_52) ?_
        exact kt
      by_cases hq_2 : p0 = (2 : Int32)
      · obtain ⟨b13, T13, h13, kk13, t13, kc13, X13, e13, E13, hS13, hk13, hZ13, hown13, fE13, fC13, fV13, fK13, lta13, ltb13, CH13, -, SF13, st13⟩ := ldcCH X0 hx hZ hown (wd hw 97 rfl) (fun d hd => hw d (own_strAtoms d hd)) e0 hS0 hk0 (own_EW hw) (by decide) hC0 (vs := [(.int (64 : Int32)), (.int (114 : Int32)), (.int (101 : Int32)), (.int (102 : Int32))]) (z := (4 : Int32)) ⟨by decide, by decide⟩ (by decide) (by decide) (g := (mkF m 56 #[vi p0, vi (0 : Int32), uu] [])) rfl (hb hby d3_56) (n := 16) (by decide) (by decide) (by decide) (by decide)
        have Re14 := R0.trans CH13
        have hCe14 := Re14.1
        have K13 : Keep h0 h13 [] := (Keep.refl h0 []).ext E13
        have Z13 : n0 ≤ h13.size := Nat.le_trans Z0 E13.1
        have c16 := (uO.ext E13)
        obtain ⟨cq15, kq15, q15a, q15b, q15c⟩ := isOf hZ13 e13 fE13
        obtain ⟨_, _, ⟨T15, Lw15, kw15, nw15⟩, -, X15, ⟨Lc15, hQ15, lq15, yq15, zq15⟩, st15⟩ := X13.virtualBack hx (y := (⟨"java/lang/String", "length", "()I"⟩ : MethodName)) (z := (⟨"java/lang/String", "length", "()I"⟩ : MethodName)) hown13 (mvT hZ13 (wd hw 19 rfl)) (mvT hZ13 (wd hw 20 rfl)) (notFace_of_selects (args := #[]) (mvT hZ13 (wd hw 22 rfl))) (mvT hZ13 (wd hw 22 rfl)) (mvT hZ13 (wd hw 21 rfl)) (by decide) (StrChars.Road.lenW (W := 1) hZ13 (fun d hd => hw d (own_w_wordsLen d hd)) (kI := 4) (wd hw 13 rfl) fE13 fV13 fC13 fK13 (StrChars.Road.codOf (cs := ([64, 114, 101, 102] : List Int32)) (n := 4) rfl (fun c hc => (own_hp2 c hc).2)) (own_up own_hp2) (uS.ext c16.2) uP (Nat.le_of_ble_eq_true rfl) (by decide) (by decide)) q15a q15c (g := (mkF m 61 #[vi p0, vi (0 : Int32), vr b13] [(.ref b13), (.int (0 : Int32))])) rfl (by rw [hml]; rfl) (Steps.refl _) (argsL := []) (rest := [(.int (0 : Int32))]) (lenOf pd_0 rfl) rfl (by show 2 * 0 + _ ≤ _; exact Nat.le_of_eq rfl) (hb hby d3_61) (fun _ _ => ⟨rfl, e13, (by decide : 2 + 0 ≤ _), (by decide : 20 + 0 ≤ _)⟩)
        dsimp only [Pt.U, Pt.locs, Pt.cells, Pt.slots] at X15 lq15 yq15 zq15 st15 hQ15
        have X15 := own_reb X15 lq15 yq15 zq15
        obtain ⟨rfl, rfl, eh15⟩ := hQ15
        have N15 := Fr.app N0 (Fr.nil n0)
        obtain ⟨cq17, kq17, q17a, q17b, q17c⟩ := isOf hZ13 eh15 fE13
        obtain ⟨_, _, ⟨T17, Lw17, kw17, nw17⟩, -, X17, ⟨Lc17, hQ17, lq17, yq17, zq17⟩, st17⟩ := X15.virtualBack hx (y := (⟨"java/lang/String", "charAt", "(I)C"⟩ : MethodName)) (z := (⟨"java/lang/String", "charAt", "(I)C"⟩ : MethodName)) hown13 (mvT hZ13 (wd hw 32 rfl)) (mvT hZ13 (wd hw 33 rfl)) (notFace_of_selects (args := #[]) (mvT hZ13 (wd hw 35 rfl))) (mvT hZ13 (wd hw 35 rfl)) (mvT hZ13 (wd hw 34 rfl)) (by decide) (StrChars.Road.chN (W := 0) hZ13 (fun d hd => hw d (own_w_wordsChN d hd)) (kI := 4) (wd hw 13 rfl) fE13 fV13 fC13 fK13 (StrChars.Road.codOf (cs := ([64, 114, 101, 102] : List Int32)) (n := 4) rfl (fun c hc => (own_hp2 c hc).2)) (own_up own_hp2) (uS.ext c16.2) uP (uF.ext c16.2) uR (Nat.le_of_ble_eq_true rfl) (i := 0) (Nat.le_of_ble_eq_true rfl) (j := (0 : Int32)) rfl (by decide) (by decide)) q17a q17c (g := (mkF m 69 #[vi p0, vi (0 : Int32), vr b13] [(.int (0 : Int32)), (.ref b13)])) rfl (by rw [hml]; rfl) (Steps.refl _) (argsL := [(.int (0 : Int32))]) (rest := []) (lenOf pd_1 rfl) rfl (by show 2 * 0 + _ ≤ _; exact Nat.le_of_eq rfl) (hb hby d3_69) (fun _ _ => ⟨rfl, eh15, (by decide : 2 + 0 ≤ _), (by decide : 20 + 0 ≤ _)⟩)
        dsimp only [Pt.U, Pt.locs, Pt.cells, Pt.slots] at X17 lq17 yq17 zq17 st17 hQ17
        have X17 := own_reb X17 lq17 yq17 zq17
        obtain ⟨rfl, rfl, eh17⟩ := hQ17
        have N17 := Fr.app N15 (Fr.nil n0)
        obtain ⟨fs, hr, hrun, hended, en1, en2, en3, en4⟩ := X17.leaveW hS13 (own_hk eh17 hk13) (v := some (.int (nar .char (64 : Int32)))) (fun h => by rw [Bd.returns] at h; cases h)
        refine ⟨_, _, pre0 _ ?_, hrun, hended, _, _, rfl, ?_, own_chr (T := T17) hh eh17 (Re14.trans (CHv.at X17 hZ13 (own_EW hw) hCe14)), en1, en2, en3, en4.mono (by decide) (by decide)⟩
        · refine sg6 _ ?_
          refine sg12 _ ?_
          show SS p e below s₁ (mkF m 53 #[vi p0, vi (0 : Int32), uu] [(.int (2 : Int32)), (.int p0)]) _
          refine XS.icmpNo X0.here hx rfl (hb hby d3_53) rfl (teq (hq_2 : p0 = (2 : Int32))).2 ?_
          show SS p e below s₁ (mkF m 56 #[vi p0, vi (0 : Int32), uu] []) _
          refine st13 _ ?_
          show SS p e below T13 (mkF m 58 #[vi p0, vi (0 : Int32), uu] [(.ref b13)]) _
          refine XS.astoreN X13.here hx rfl (hb hby d3_58) rfl rfl (l' := #[vi p0, vi (0 : Int32), vr b13]) rfl ?_
          show SS p e below T13 (mkF m 59 #[vi p0, vi (0 : Int32), vr b13] []) _
          refine XS.iloadN X13.here hx rfl (hb hby d3_59) rfl ?_
          show SS p e below T13 (mkF m 60 #[vi p0, vi (0 : Int32), vr b13] [(.int (0 : Int32))]) _
          refine XS.aloadN X13.here hx rfl (hb hby d3_60) rfl rfl ?_
          show SS p e below T13 (mkF m 61 #[vi p0, vi (0 : Int32), vr b13] [(.ref b13), (.int (0 : Int32))]) _
          refine st15.trans ?_
          show SS p e below T15 (mkF m 64 #[vi p0, vi (0 : Int32), vr b13] [(.int (4 : Int32)), (.int (0 : Int32))]) _
          refine XS.icmpNo X15.here hx rfl (hb hby d3_64) rfl (tlt (by decide : (0 : Int32) < (4 : Int32))).2.1 ?_
          show SS p e below T15 (mkF m 67 #[vi p0, vi (0 : Int32), vr b13] []) _
          refine XS.aloadN X15.here hx rfl (hb hby d3_67) rfl rfl ?_
          show SS p e below T15 (mkF m 68 #[vi p0, vi (0 : Int32), vr b13] [(.ref b13)]) _
          refine XS.iloadN X15.here hx rfl (hb hby d3_68) rfl ?_
          show SS p e below T15 (mkF m 69 #[vi p0, vi (0 : Int32), vr b13] [(.int (0 : Int32)), (.ref b13)]) _
          refine st17.trans ?_
          show SS p e below T17 (mkF m 72 #[vi p0, vi (0 : Int32), vr b13] [(.int (64 : Int32))]) _
          refine XS.goto X17.here hx rfl (pc0 := 72) (pc' := 76) rfl (hb hby d3_72) (by decide) (by decide) ?_
          show SS p e below T17 (mkF m 76 #[vi p0, vi (0 : Int32), vr b13] [(.int (64 : Int32))]) _
          exact retN X17 hx (t := .char) Bd.returns (by simp) (hb hby d3_76) hr
        · show Q_rmT0 Z p0 zc fm h0 n0 _ T17.heap _
          rw [eh17]
          exact ⟨(nar .char (64 : Int32)), rfl, N17, K13, (by decide)⟩
      · obtain ⟨fs, hr, hrun, hended, en1, en2, en3, en4⟩ := X0.leaveW hS0 (own_hk e0 hk0) (v := some (.int (nar .char (0 : Int32)))) (fun h => by rw [Bd.returns] at h; cases h)
        refine ⟨_, _, pre0 _ ?_, hrun, hended, _, _, rfl, ?_, own_chr (T := s₁) hh e0 (R0.trans (CHv.at X0 hZ (own_EW hw) hC0)), en1, en2, en3, en4.mono (by decide) (by decide)⟩
        · refine sg6 _ ?_
          refine sg12 _ ?_
          show SS p e below s₁ (mkF m 53 #[vi p0, vi (0 : Int32), uu] [(.int (2 : Int32)), (.int p0)]) _
          refine XS.icmpYes X0.here hx rfl (pc0 := 53) (pc' := 77) rfl (hb hby d3_53) rfl (feq (hq_2 : ¬ (p0 = (2 : Int32)))).2 (by decide) (by decide) ?_
          show SS p e below s₁ (mkF m 77 #[vi p0, vi (0 : Int32), uu] []) _
          refine XS.iconst X0.here hx rfl (hb hby d3_77) ?_
          show SS p e below s₁ (mkF m 78 #[vi p0, vi (0 : Int32), uu] [(.int (0 : Int32))]) _
          exact retN X0 hx (t := .char) Bd.returns (by simp) (hb hby d3_78) hr
        · show Q_rmT0 Z p0 zc fm h0 n0 _ s₁.heap _
          rw [e0]
          exact ⟨(nar .char (0 : Int32)), rfl, N0, (Keep.refl h0 []), (by decide)⟩
theorem ef_2 (m : MethodId) (x0 : Int32) (x2 : Int32) (x3 : Int64) : entryFrame m #[(.int x0), (.int (0 : Int32)), (.int x2), (.long x3)] 7 = mkF m 0 #[vi x0, vi (0 : Int32), vi x2, vl x3, us, uu, uu] [] := by first | (simp [entryFrame, mkF, argsToLocals, Value.category]; done) | rfl
theorem d1_0 : decode method_5_code 0 = .ok (.iload_n 1, 1) := by decide +kernel
theorem d1_1 : decode method_5_code 1 = .ok (.lload_n 3, 1) := by decide +kernel
theorem d1_2 : decode method_5_code 2 = .ok (.invokestatic 41, 3) := by decide +kernel
theorem pd_2 : parseMethodDescriptor "(IJ)C" = some ⟨[.int, .long], some .char⟩ := by decide +kernel
theorem d1_5 : decode method_5_code 5 = .ok (.istore 5, 2) := by decide +kernel
theorem d1_7 : decode method_5_code 7 = .ok (.iload_n 1, 1) := by decide +kernel
theorem d1_8 : decode method_5_code 8 = .ok (.iload_n 2, 1) := by decide +kernel
theorem d1_9 : decode method_5_code 9 = .ok (.if_icmp .ne 6, 3) := by decide +kernel
theorem d1_12 : decode method_5_code 12 = .ok (.iload 5, 2) := by decide +kernel
theorem d1_14 : decode method_5_code 14 = .ok (.ireturn, 1) := by decide +kernel
theorem d1_15 : decode method_5_code 15 = .ok (.iload_n 0, 1) := by decide +kernel
theorem d1_16 : decode method_5_code 16 = .ok (.iload_n 1, 1) := by decide +kernel
theorem d1_17 : decode method_5_code 17 = .ok (.invokestatic 45, 3) := by decide +kernel
theorem pd_3 : parseMethodDescriptor "(II)C" = some ⟨[.int, .int], some .char⟩ := by decide +kernel
theorem d1_20 : decode method_5_code 20 = .ok (.istore 6, 2) := by decide +kernel
theorem d1_22 : decode method_5_code 22 = .ok (.iload 6, 2) := by decide +kernel
theorem d1_24 : decode method_5_code 24 = .ok (.ifCond .ne 8, 3) := by decide +kernel
theorem d1_27 : decode method_5_code 27 = .ok (.iload 5, 2) := by decide +kernel
theorem d1_29 : decode method_5_code 29 = .ok (.goto 5, 3) := by decide +kernel
theorem d1_34 : decode method_5_code 34 = .ok (.ireturn, 1) := by decide +kernel
theorem d1_32 : decode method_5_code 32 = .ok (.iload 6, 2) := by decide +kernel
def Q_rmP0 (Z : State) (p0 : Int32) (p2 : Int32) (q3 : Int64) (zc : Int32) (fm : Value) (h0 : Heap) (n0 : Nat) (v : Option Value) (h : Heap) (L : List Loc) : Prop := ∃ (cv : Int32), (v = some (.int cv) ∧ Fr n0 L ∧ Keep h0 h [] ∧ ¬ cv < 0 ∧ ¬ (255 : Int32) < cv)
set_option maxRecDepth 65536 in
set_option maxHeartbeats 40000000 in
theorem rmP0 (l : Launch) (Z : State) (a0 : Array Value) (hw : ∀ d ∈ tables_1, d.before a0 Z = true) (ws : List Jvm.Cond) (p0 : Int32) (p2 : Int32) (q3 : Int64) (zc : Int32) (fm : Value) (h0 : Heap) (n0 : Nat) (Z0 : n0 ≤ h0.size) (uO : Old Z n0 h0) (uS : Sta Z Z.heap "java/lang/String" "COMPACT_STRINGS" "Z" (.int zc)) (uF : Sta Z Z.heap "jdk/internal/util/Preconditions" "SIOOBE_FORMATTER" "Ljava/util/function/BiFunction;" fm) (uP : ¬ zc = 0) (uR : fm.isRef = true) :
    MetFree l (⟨"com/example/wireform/wireform/json/JsonIsReservedPinLaw", "pick", "(IIIJ)C"⟩ : MethodName) (head1 (Jvm.Cond.code (⟨"com/example/wireform/wireform/json/JsonIsReservedPinLaw", "pick", "(IIIJ)C"⟩ : MethodName) method_5_code 7 (some .char) :: ws) ({ frames := 5, cells := 2, slots := 24, locals := 67 } : Room)) (fun a U => a = #[(.int p0), (.int (0 : Int32)), (.int p2), (.long q3)] ∧ Z.Warmed39 U.vm ∧ U.heap = h0 ∧ CHv Z own_EL U.vm h0) (fun _ _ _ _ _ => True) (fun _ U o U' => ∃ v L, o = .returned v ∧ Q_rmP0 Z p0 p2 q3 zc fm h0 n0 v U'.heap L ∧ CHr Z own_EL U.vm U.heap U'.vm U'.heap ∧ ReturnedEndW U o U' L ({ frames := 5, cells := 2, slots := 24, locals := 67 } : Room).cells ({ frames := 5, cells := 2, slots := 24, locals := 67 } : Room).slots) := by
  refine MetFree.of_bodySF (plainFor_of_name pn_0) hisR ?_
  intro p e s m args below meth c s₁ Bd hml0 hP hK
  obtain ⟨rfl, hZ, hh, hC0⟩ := hP
  have hx := Bd.exec
  have hby := Bd.bytes
  have hml : c.maxLocals = 7 := hml0
  have hown : s.vm.findClass "com/example/wireform/wireform/json/JsonIsReservedPinLaw" = some m.cls := findClass_of_methodNamed Bd.named
  have hnm := (name_of_methodNamed Bd.named Bd.method).1
  have X0 : Stand p l e ({ frames := 5, cells := 2, slots := 24, locals := 67 } : Room) (s.setVm s.vm) m #[(.int p0), (.int (0 : Int32)), (.int p2), (.long q3)] below meth c s₁ [] 0 0 := Stand.of_body Bd
  have e0 : s₁.heap = h0 := by rw [← hh, Bd.state]; rfl
  have N0 := Fr.nil n0
  have pre0 : ∀ t, Steps p.tables e below (s₁.setTop (mkF m 0 #[vi p0, vi (0 : Int32), vi p2, vl q3, us, uu, uu] [])) t → Steps p.tables e below (s₁.setTop (entryFrame m #[(.int p0), (.int (0 : Int32)), (.int p2), (.long q3)] 7)) t := fun t k => castTop (ef_2 m p0 p2 q3) k
  have hS0 : s.Since s.vm 0 := (State.WarmedH.refl s).since _
  have hk0 : 0 ≤ h0.size := Nat.zero_le _
  have R0 := CHr.refl hC0
  obtain ⟨_, _, ⟨T1, Lw1, kw1, nw1⟩, -, X1, ⟨Lc1, hQ1, lq1, yq1, zq1⟩, st1⟩ := Jvm.LawKit.callS X0 hx (y := (⟨"com/example/wireform/wireform/json/JsonIsReservedPinLaw", "drawn", "(IJ)C"⟩ : MethodName)) hown (mvT hZ (wd hw 4 rfl)) (mvT hZ (wd hw 5 rfl)) (mvT hZ (wd hw 2 rfl)) (mvT hZ (wd hw 6 rfl)) (by decide) (backOf (W := 0) (rmD l Z a0 hw [] (0 : Int32) q3 h0 n0 Z0) hZ (wd hw 6 rfl) (wd hw 2 rfl) (by decide) (by decide)) (g := (mkF m 2 #[vi p0, vi (0 : Int32), vi p2, vl q3, us, uu, uu] [(.long q3), (.int (0 : Int32))])) rfl (by rw [hml]; rfl) (argsL := [(.int (0 : Int32)), (.long q3)]) (rest := []) (lenOf pd_2 rfl) rfl (by show 2 * 0 + _ ≤ _; exact Nat.le_of_eq rfl) (hb hby d1_2) (fun _ _ => ⟨rfl, e0, (by decide : 0 + 0 ≤ _), (by decide : 0 + 0 ≤ _)⟩)
  dsimp only [Pt.U, Pt.locs, Pt.cells, Pt.slots] at X1 lq1 yq1 zq1 st1 hQ1
  have X1 := own_reb X1 lq1 yq1 zq1
  obtain ⟨rfl, Nq1, eh1⟩ := hQ1
  have N1 := Fr.app N0 Nq1
  have sg2 : ∀ target, SS p e below T1 (mkF m 9 #[vi p0, vi (0 : Int32), vi p2, vl q3, us, vi (own_d (0 : Int32) q3), uu] [(.int p2), (.int (0 : Int32))]) target → SS p e below s₁ (mkF m 0 #[vi p0, vi (0 : Int32), vi p2, vl q3, us, uu, uu] []) target := by
    intro target kt
    show SS p e below s₁ (mkF m 0 #[vi p0, vi (0 : Int32), vi p2, vl q3, us, uu, uu] []) _
    refine XS.iloadN X0.here hx rfl (hb hby d1_0) rfl ?_
    show SS p e below s₁ (mkF m 1 #[vi p0, vi (0 : Int32), vi p2, vl q3, us, uu, uu] [(.int (0 : Int32))]) _
    refine XS.lloadN X0.here hx rfl (hb hby d1_1) rfl ?_
    show SS p e below s₁ (mkF m 2 #[vi p0, vi (0 : Int32), vi p2, vl q3, us, uu, uu] [(.long q3), (.int (0 : Int32))]) _
    refine st1 _ ?_
    show SS p e below T1 (mkF m 5 #[vi p0, vi (0 : Int32), vi p2, vl q3, us, uu, uu] [(.int (own_d (0 : Int32) q3))]) _
    refine XS.istore X1.here hx rfl (hb hby d1_5) rfl (l' := #[vi p0, vi (0 : Int32), vi p2, vl q3, us, vi (own_d (0 : Int32) q3), uu]) rfl ?_
    show SS p e below T1 (mkF m 7 #[vi p0, vi (0 : Int32), vi p2, vl q3, us, vi (own_d (0 : Int32) q3), uu] []) _
    refine XS.iloadN X1.here hx rfl (hb hby d1_7) rfl ?_
    show SS p e below T1 (mkF m 8 #[vi p0, vi (0 : Int32), vi p2, vl q3, us, vi (own_d (0 : Int32) q3), uu] [(.int (0 : Int32))]) _
    refine XS.iloadN X1.here hx rfl (hb hby d1_8) rfl ?_
    exact kt
  by_cases hm : (0 : Int32) = p2
  · obtain ⟨fs, hr, hrun, hended, en1, en2, en3, en4⟩ := X1.leaveW hS0 (own_hk eh1 hk0) (v := some (.int (nar .char (own_d (0 : Int32) q3)))) (fun h => by rw [Bd.returns] at h; cases h)
    refine ⟨_, _, pre0 _ ?_, hrun, hended, _, _, rfl, ?_, own_chr (T := T1) hh eh1 (R0.trans (CHv.at X1 hZ (own_EW hw) hC0)), en1, en2, en3, en4.mono (by decide) (by decide)⟩
    · refine sg2 _ ?_
      show SS p e below T1 (mkF m 9 #[vi p0, vi (0 : Int32), vi p2, vl q3, us, vi (own_d (0 : Int32) q3), uu] [(.int p2), (.int (0 : Int32))]) _
      refine XS.icmpNo X1.here hx rfl (hb hby d1_9) rfl (teq (hm : (0 : Int32) = p2)).2 ?_
      show SS p e below T1 (mkF m 12 #[vi p0, vi (0 : Int32), vi p2, vl q3, us, vi (own_d (0 : Int32) q3), uu] []) _
      refine XS.iload X1.here hx rfl (hb hby d1_12) rfl ?_
      show SS p e below T1 (mkF m 14 #[vi p0, vi (0 : Int32), vi p2, vl q3, us, vi (own_d (0 : Int32) q3), uu] [(.int (own_d (0 : Int32) q3))]) _
      exact retN X1 hx (t := .char) Bd.returns (by simp) (hb hby d1_14) hr
    · show Q_rmP0 Z p0 p2 q3 zc fm h0 n0 _ T1.heap _
      rw [eh1]
      exact ⟨(nar .char (own_d (0 : Int32) q3)), rfl, N1, (Keep.refl h0 []), (own_nb (own_db _ _))⟩
  · obtain ⟨_, _, ⟨T3, Lw3, kw3, nw3⟩, -, X3', hS3', hg3, ⟨Lc3, hQ3, lq3, yq3, zq3, CH3⟩, st3⟩ := callSS X1 hx (y := (⟨"com/example/wireform/wireform/json/JsonIsReservedPinLaw", "templ", "(II)C"⟩ : MethodName)) hown (mvT hZ (wd hw 8 rfl)) (mvT hZ (wd hw 9 rfl)) (mvT hZ (wd hw 2 rfl)) (mvT hZ (wd hw 10 rfl)) (by decide) (backOfSH (W := 0) (rmT0 l Z a0 hw [] p0 zc fm h0 n0 Z0 uO uS uF uP uR) hZ (wd hw 10 rfl) (wd hw 2 rfl) (by decide) (by decide) (own_EW hw) hC0) (g := (mkF m 17 #[vi p0, vi (0 : Int32), vi p2, vl q3, us, vi (own_d (0 : Int32) q3), uu] [(.int (0 : Int32)), (.int p0)])) rfl (by rw [hml]; rfl) (argsL := [(.int p0), (.int (0 : Int32))]) (rest := []) (lenOf pd_3 rfl) rfl (by show 2 * 0 + _ ≤ _; exact Nat.le_of_eq rfl) (hb hby d1_17) (fun _ _ => ⟨rfl, eh1, (by decide : 0 + 2 ≤ _), (by decide : 0 + 24 ≤ _)⟩)
    dsimp only [Pt.U, Pt.locs, Pt.cells, Pt.slots] at X3' hS3' hg3 lq3 yq3 zq3 st3 hQ3 CH3
    have X3' := own_reb X3' lq3 yq3 zq3
    obtain ⟨X3, hS3, hZ3, hown3⟩ := rebS hS0 (own_hk eh1 hk0) X3' hS3' hg3 hZ hown
    obtain ⟨cv_3, rfl, Nq3, Kq3, f3_0⟩ := hQ3
    have N3 := Fr.app N1 Nq3
    have Re4 := R0.trans CH3
    have hCe4 := Re4.1
    have K3 : Keep h0 T3.heap [] := (Keep.refl h0 []).trans Kq3 all0
    have Z3 : n0 ≤ T3.heap.size := Nat.le_trans Z0 Kq3.1
    have hk3 : T3.heap.size ≤ T3.heap.size := Nat.le_refl _
    have sg5 : ∀ target, SS p e below T3 (mkF m 24 #[vi p0, vi (0 : Int32), vi p2, vl q3, us, vi (own_d (0 : Int32) q3), vi cv_3] [(.int cv_3)]) target → SS p e below T1 (mkF m 9 #[vi p0, vi (0 : Int32), vi p2, vl q3, us, vi (own_d (0 : Int32) q3), uu] [(.int p2), (.int (0 : Int32))]) target := by
      intro target kt
      show SS p e below T1 (mkF m 9 #[vi p0, vi (0 : Int32), vi p2, vl q3, us, vi (own_d (0 : Int32) q3), uu] [(.int p2), (.int (0 : Int32))]) _
      refine XS.icmpYes X1.here hx rfl (pc0 := 9) (pc' := 15) rfl (hb hby d1_9) rfl (feq (hm : ¬ ((0 : Int32) = p2))).2 (by decide) (by decide) ?_
      show SS p e below T1 (mkF m 15 #[vi p0, vi (0 : Int32), vi p2, vl q3, us, vi (own_d (0 : Int32) q3), uu] []) _
      refine XS.iloadN X1.here hx rfl (hb hby d1_15) rfl ?_
      show SS p e below T1 (mkF m 16 #[vi p0, vi (0 : Int32), vi p2, vl q3, us, vi (own_d (0 : Int32) q3), uu] [(.int p0)]) _
      refine XS.iloadN X1.here hx rfl (hb hby d1_16) rfl ?_
      show SS p e below T1 (mkF m 17 #[vi p0, vi (0 : Int32), vi p2, vl q3, us, vi (own_d (0 : Int32) q3), uu] [(.int (0 : Int32)), (.int p0)]) _
      refine st3.trans ?_
      show SS p e below T3 (mkF m 20 #[vi p0, vi (0 : Int32), vi p2, vl q3, us, vi (own_d (0 : Int32) q3), uu] [(.int cv_3)]) _
      refine XS.istore X3.here hx rfl (hb hby d1_20) rfl (l' := #[vi p0, vi (0 : Int32), vi p2, vl q3, us, vi (own_d (0 : Int32) q3), vi cv_3]) rfl ?_
      show SS p e below T3 (mkF m 22 #[vi p0, vi (0 : Int32), vi p2, vl q3, us, vi (own_d (0 : Int32) q3), vi cv_3] []) _
      refine XS.iload X3.here hx rfl (hb hby d1_22) rfl ?_
      exact kt
    by_cases ht : cv_3 = (0 : Int32)
    · obtain ⟨fs, hr, hrun, hended, en1, en2, en3, en4⟩ := X3.leaveW hS3 (own_hk rfl hk3) (v := some (.int (nar .char (own_d (0 : Int32) q3)))) (fun h => by rw [Bd.returns] at h; cases h)
      refine ⟨_, _, pre0 _ ?_, hrun, hended, _, _, rfl, ?_, own_chr (T := T3) hh rfl (Re4.trans (CHv.at X3 hZ3 (own_EW hw) hCe4)), en1, en2, en3, en4.mono (by decide) (by decide)⟩
      · refine sg2 _ ?_
        refine sg5 _ ?_
        show SS p e below T3 (mkF m 24 #[vi p0, vi (0 : Int32), vi p2, vl q3, us, vi (own_d (0 : Int32) q3), vi cv_3] [(.int cv_3)]) _
        refine XS.ifNo X3.here hx rfl (hb hby d1_24) rfl ((if0 _ _).trans (teq (ht : cv_3 = (0 : Int32))).2) ?_
        show SS p e below T3 (mkF m 27 #[vi p0, vi (0 : Int32), vi p2, vl q3, us, vi (own_d (0 : Int32) q3), vi cv_3] []) _
        refine XS.iload X3.here hx rfl (hb hby d1_27) rfl ?_
        show SS p e below T3 (mkF m 29 #[vi p0, vi (0 : Int32), vi p2, vl q3, us, vi (own_d (0 : Int32) q3), vi cv_3] [(.int (own_d (0 : Int32) q3))]) _
        refine XS.goto X3.here hx rfl (pc0 := 29) (pc' := 34) rfl (hb hby d1_29) (by decide) (by decide) ?_
        show SS p e below T3 (mkF m 34 #[vi p0, vi (0 : Int32), vi p2, vl q3, us, vi (own_d (0 : Int32) q3), vi cv_3] [(.int (own_d (0 : Int32) q3))]) _
        exact retN X3 hx (t := .char) Bd.returns (by simp) (hb hby d1_34) hr
      · show Q_rmP0 Z p0 p2 q3 zc fm h0 n0 _ T3.heap _
        exact ⟨(nar .char (own_d (0 : Int32) q3)), rfl, N3, K3, (own_nb (own_db _ _))⟩
    · obtain ⟨fs, hr, hrun, hended, en1, en2, en3, en4⟩ := X3.leaveW hS3 (own_hk rfl hk3) (v := some (.int (nar .char cv_3))) (fun h => by rw [Bd.returns] at h; cases h)
      refine ⟨_, _, pre0 _ ?_, hrun, hended, _, _, rfl, ?_, own_chr (T := T3) hh rfl (Re4.trans (CHv.at X3 hZ3 (own_EW hw) hCe4)), en1, en2, en3, en4.mono (by decide) (by decide)⟩
      · refine sg2 _ ?_
        refine sg5 _ ?_
        show SS p e below T3 (mkF m 24 #[vi p0, vi (0 : Int32), vi p2, vl q3, us, vi (own_d (0 : Int32) q3), vi cv_3] [(.int cv_3)]) _
        refine XS.ifYes X3.here hx rfl (pc0 := 24) (pc' := 32) rfl (hb hby d1_24) rfl ((if0 _ _).trans (feq (ht : ¬ (cv_3 = (0 : Int32)))).2) (by decide) (by decide) ?_
        show SS p e below T3 (mkF m 32 #[vi p0, vi (0 : Int32), vi p2, vl q3, us, vi (own_d (0 : Int32) q3), vi cv_3] []) _
        refine XS.iload X3.here hx rfl (hb hby d1_32) rfl ?_
        show SS p e below T3 (mkF m 34 #[vi p0, vi (0 : Int32), vi p2, vl q3, us, vi (own_d (0 : Int32) q3), vi cv_3] [(.int cv_3)]) _
        exact retN X3 hx (t := .char) Bd.returns (by simp) (hb hby d1_34) hr
      · show Q_rmP0 Z p0 p2 q3 zc fm h0 n0 _ T3.heap _
        exact ⟨(nar .char cv_3), rfl, N3, K3, (own_nb f3_0)⟩
theorem ef_3 (m : MethodId) (x0 : Int32) : entryFrame m #[(.int x0), (.int (1 : Int32))] 3 = mkF m 0 #[vi x0, vi (1 : Int32), uu] [] := by first | (simp [entryFrame, mkF, argsToLocals, Value.category]; done) | rfl
def Q_rmT1 (Z : State) (p0 : Int32) (zc : Int32) (fm : Value) (h0 : Heap) (n0 : Nat) (v : Option Value) (h : Heap) (L : List Loc) : Prop := ∃ (cv : Int32), (v = some (.int cv) ∧ Fr n0 L ∧ Keep h0 h [] ∧ ¬ cv < 0 ∧ ¬ (255 : Int32) < cv)
set_option maxRecDepth 65536 in
set_option maxHeartbeats 40000000 in
theorem rmT1 (l : Launch) (Z : State) (a0 : Array Value) (hw : ∀ d ∈ tables_1, d.before a0 Z = true) (ws : List Jvm.Cond) (p0 : Int32) (zc : Int32) (fm : Value) (h0 : Heap) (n0 : Nat) (Z0 : n0 ≤ h0.size) (uO : Old Z n0 h0) (uS : Sta Z Z.heap "java/lang/String" "COMPACT_STRINGS" "Z" (.int zc)) (uF : Sta Z Z.heap "jdk/internal/util/Preconditions" "SIOOBE_FORMATTER" "Ljava/util/function/BiFunction;" fm) (uP : ¬ zc = 0) (uR : fm.isRef = true) :
    MetFree l (⟨"com/example/wireform/wireform/json/JsonIsReservedPinLaw", "templ", "(II)C"⟩ : MethodName) (head1 (Jvm.Cond.code (⟨"com/example/wireform/wireform/json/JsonIsReservedPinLaw", "templ", "(II)C"⟩ : MethodName) method_4_code 3 (some .char) :: ws) ({ frames := 4, cells := 2, slots := 24, locals := 53 } : Room)) (fun a U => a = #[(.int p0), (.int (1 : Int32))] ∧ Z.Warmed39 U.vm ∧ U.heap = h0 ∧ CHv Z own_EL U.vm h0) (fun _ _ _ _ _ => True) (fun _ U o U' => ∃ v L, o = .returned v ∧ Q_rmT1 Z p0 zc fm h0 n0 v U'.heap L ∧ CHr Z own_EL U.vm U.heap U'.vm U'.heap ∧ ReturnedEndW U o U' L ({ frames := 4, cells := 2, slots := 24, locals := 53 } : Room).cells ({ frames := 4, cells := 2, slots := 24, locals := 53 } : Room).slots) := by
  refine MetFree.of_bodySF (plainFor_of_name pn_0) hisR ?_
  intro p e s m args below meth c s₁ Bd hml0 hP hK
  obtain ⟨rfl, hZ, hh, hC0⟩ := hP
  have hx := Bd.exec
  have hby := Bd.bytes
  have hml : c.maxLocals = 3 := hml0
  have hown : s.vm.findClass "com/example/wireform/wireform/json/JsonIsReservedPinLaw" = some m.cls := findClass_of_methodNamed Bd.named
  have hnm := (name_of_methodNamed Bd.named Bd.method).1
  have X0 : Stand p l e ({ frames := 4, cells := 2, slots := 24, locals := 53 } : Room) (s.setVm s.vm) m #[(.int p0), (.int (1 : Int32))] below meth c s₁ [] 0 0 := Stand.of_body Bd
  have e0 : s₁.heap = h0 := by rw [← hh, Bd.state]; rfl
  have N0 := Fr.nil n0
  have pre0 : ∀ t, Steps p.tables e below (s₁.setTop (mkF m 0 #[vi p0, vi (1 : Int32), uu] [])) t → Steps p.tables e below (s₁.setTop (entryFrame m #[(.int p0), (.int (1 : Int32))] 3)) t := fun t k => castTop (ef_3 m p0) k
  have hS0 : s.Since s.vm 0 := (State.WarmedH.refl s).since _
  have hk0 : 0 ≤ h0.size := Nat.zero_le _
  have R0 := CHr.refl hC0
  by_cases hq_0 : p0 = (0 : Int32)
  · obtain ⟨b1, T1, h1, kk1, t1, kc1, X1, e1, E1, hS1, hk1, hZ1, hown1, fE1, fC1, fV1, fK1, lta1, ltb1, CH1, -, SF1, st1⟩ := ldcCH X0 hx hZ hown (wd hw 11 rfl) (fun d hd => hw d (own_strAtoms d hd)) e0 hS0 hk0 (own_EW hw) (by decide) hC0 (vs := [(.int (64 : Int32)), (.int (116 : Int32)), (.int (121 : Int32)), (.int (112 : Int32)), (.int (101 : Int32))]) (z := (5 : Int32)) ⟨by decide, by decide⟩ (by decide) (by decide) (g := (mkF m 4 #[vi p0, vi (1 : Int32), uu] [])) rfl (hb hby d3_4) (n := 20) (by decide) (by decide) (by decide) (by decide)
    have Re2 := R0.trans CH1
    have hCe2 := Re2.1
    have K1 : Keep h0 h1 [] := (Keep.refl h0 []).ext E1
    have Z1 : n0 ≤ h1.size := Nat.le_trans Z0 E1.1
    have c4 := (uO.ext E1)
    obtain ⟨cq3, kq3, q3a, q3b, q3c⟩ := isOf hZ1 e1 fE1
    obtain ⟨_, _, ⟨T3, Lw3, kw3, nw3⟩, -, X3, ⟨Lc3, hQ3, lq3, yq3, zq3⟩, st3⟩ := X1.virtualBack hx (y := (⟨"java/lang/String", "length", "()I"⟩ : MethodName)) (z := (⟨"java/lang/String", "length", "()I"⟩ : MethodName)) hown1 (mvT hZ1 (wd hw 19 rfl)) (mvT hZ1 (wd hw 20 rfl)) (notFace_of_selects (args := #[]) (mvT hZ1 (wd hw 22 rfl))) (mvT hZ1 (wd hw 22 rfl)) (mvT hZ1 (wd hw 21 rfl)) (by decide) (StrChars.Road.lenW (W := 1) hZ1 (fun d hd => hw d (own_w_wordsLen d hd)) (kI := 4) (wd hw 13 rfl) fE1 fV1 fC1 fK1 (StrChars.Road.codOf (cs := ([64, 116, 121, 112, 101] : List Int32)) (n := 5) rfl (fun c hc => (own_hp0 c hc).2)) (own_up own_hp0) (uS.ext c4.2) uP (Nat.le_of_ble_eq_true rfl) (by decide) (by decide)) q3a q3c (g := (mkF m 9 #[vi p0, vi (1 : Int32), vr b1] [(.ref b1), (.int (1 : Int32))])) rfl (by rw [hml]; rfl) (Steps.refl _) (argsL := []) (rest := [(.int (1 : Int32))]) (lenOf pd_0 rfl) rfl (by show 2 * 0 + _ ≤ _; exact Nat.le_of_eq rfl) (hb hby d3_9) (fun _ _ => ⟨rfl, e1, (by decide : 2 + 0 ≤ _), (by decide : 24 + 0 ≤ _)⟩)
    dsimp only [Pt.U, Pt.locs, Pt.cells, Pt.slots] at X3 lq3 yq3 zq3 st3 hQ3
    have X3 := own_reb X3 lq3 yq3 zq3
    obtain ⟨rfl, rfl, eh3⟩ := hQ3
    have N3 := Fr.app N0 (Fr.nil n0)
    obtain ⟨cq5, kq5, q5a, q5b, q5c⟩ := isOf hZ1 eh3 fE1
    obtain ⟨_, _, ⟨T5, Lw5, kw5, nw5⟩, -, X5, ⟨Lc5, hQ5, lq5, yq5, zq5⟩, st5⟩ := X3.virtualBack hx (y := (⟨"java/lang/String", "charAt", "(I)C"⟩ : MethodName)) (z := (⟨"java/lang/String", "charAt", "(I)C"⟩ : MethodName)) hown1 (mvT hZ1 (wd hw 32 rfl)) (mvT hZ1 (wd hw 33 rfl)) (notFace_of_selects (args := #[]) (mvT hZ1 (wd hw 35 rfl))) (mvT hZ1 (wd hw 35 rfl)) (mvT hZ1 (wd hw 34 rfl)) (by decide) (StrChars.Road.chN (W := 0) hZ1 (fun d hd => hw d (own_w_wordsChN d hd)) (kI := 4) (wd hw 13 rfl) fE1 fV1 fC1 fK1 (StrChars.Road.codOf (cs := ([64, 116, 121, 112, 101] : List Int32)) (n := 5) rfl (fun c hc => (own_hp0 c hc).2)) (own_up own_hp0) (uS.ext c4.2) uP (uF.ext c4.2) uR (Nat.le_of_ble_eq_true rfl) (i := 1) (Nat.le_of_ble_eq_true rfl) (j := (1 : Int32)) rfl (by decide) (by decide)) q5a q5c (g := (mkF m 17 #[vi p0, vi (1 : Int32), vr b1] [(.int (1 : Int32)), (.ref b1)])) rfl (by rw [hml]; rfl) (Steps.refl _) (argsL := [(.int (1 : Int32))]) (rest := []) (lenOf pd_1 rfl) rfl (by show 2 * 0 + _ ≤ _; exact Nat.le_of_eq rfl) (hb hby d3_17) (fun _ _ => ⟨rfl, eh3, (by decide : 2 + 0 ≤ _), (by decide : 24 + 0 ≤ _)⟩)
    dsimp only [Pt.U, Pt.locs, Pt.cells, Pt.slots] at X5 lq5 yq5 zq5 st5 hQ5
    have X5 := own_reb X5 lq5 yq5 zq5
    obtain ⟨rfl, rfl, eh5⟩ := hQ5
    have N5 := Fr.app N3 (Fr.nil n0)
    obtain ⟨fs, hr, hrun, hended, en1, en2, en3, en4⟩ := X5.leaveW hS1 (own_hk eh5 hk1) (v := some (.int (nar .char (116 : Int32)))) (fun h => by rw [Bd.returns] at h; cases h)
    refine ⟨_, _, pre0 _ ?_, hrun, hended, _, _, rfl, ?_, own_chr (T := T5) hh eh5 (Re2.trans (CHv.at X5 hZ1 (own_EW hw) hCe2)), en1, en2, en3, en4.mono (by decide) (by decide)⟩
    · show SS p e below s₁ (mkF m 0 #[vi p0, vi (1 : Int32), uu] []) _
      refine XS.iloadN X0.here hx rfl (hb hby d3_0) rfl ?_
      show SS p e below s₁ (mkF m 1 #[vi p0, vi (1 : Int32), uu] [(.int p0)]) _
      refine XS.ifNo X0.here hx rfl (hb hby d3_1) rfl ((if0 _ _).trans (teq (hq_0 : p0 = (0 : Int32))).2) ?_
      show SS p e below s₁ (mkF m 4 #[vi p0, vi (1 : Int32), uu] []) _
      refine st1 _ ?_
      show SS p e below T1 (mkF m 6 #[vi p0, vi (1 : Int32), uu] [(.ref b1)]) _
      refine XS.astoreN X1.here hx rfl (hb hby d3_6) rfl rfl (l' := #[vi p0, vi (1 : Int32), vr b1]) rfl ?_
      show SS p e below T1 (mkF m 7 #[vi p0, vi (1 : Int32), vr b1] []) _
      refine XS.iloadN X1.here hx rfl (hb hby d3_7) rfl ?_
      show SS p e below T1 (mkF m 8 #[vi p0, vi (1 : Int32), vr b1] [(.int (1 : Int32))]) _
      refine XS.aloadN X1.here hx rfl (hb hby d3_8) rfl rfl ?_
      show SS p e below T1 (mkF m 9 #[vi p0, vi (1 : Int32), vr b1] [(.ref b1), (.int (1 : Int32))]) _
      refine st3.trans ?_
      show SS p e below T3 (mkF m 12 #[vi p0, vi (1 : Int32), vr b1] [(.int (5 : Int32)), (.int (1 : Int32))]) _
      refine XS.icmpNo X3.here hx rfl (hb hby d3_12) rfl (tlt (by decide : (1 : Int32) < (5 : Int32))).2.1 ?_
      show SS p e below T3 (mkF m 15 #[vi p0, vi (1 : Int32), vr b1] []) _
      refine XS.aloadN X3.here hx rfl (hb hby d3_15) rfl rfl ?_
      show SS p e below T3 (mkF m 16 #[vi p0, vi (1 : Int32), vr b1] [(.ref b1)]) _
      refine XS.iloadN X3.here hx rfl (hb hby d3_16) rfl ?_
      show SS p e below T3 (mkF m 17 #[vi p0, vi (1 : Int32), vr b1] [(.int (1 : Int32)), (.ref b1)]) _
      refine st5.trans ?_
      show SS p e below T5 (mkF m 20 #[vi p0, vi (1 : Int32), vr b1] [(.int (116 : Int32))]) _
      refine XS.goto X5.here hx rfl (pc0 := 20) (pc' := 24) rfl (hb hby d3_20) (by decide) (by decide) ?_
      show SS p e below T5 (mkF m 24 #[vi p0, vi (1 : Int32), vr b1] [(.int (116 : Int32))]) _
      exact retN X5 hx (t := .char) Bd.returns (by simp) (hb hby d3_24) hr
    · show Q_rmT1 Z p0 zc fm h0 n0 _ T5.heap _
      rw [eh5]
      exact ⟨(nar .char (116 : Int32)), rfl, N5, K1, (by decide)⟩
  · have sg6 : ∀ target, SS p e below s₁ (mkF m 27 #[vi p0, vi (1 : Int32), uu] [(.int (1 : Int32)), (.int p0)]) target → SS p e below s₁ (mkF m 0 #[vi p0, vi (1 : Int32), uu] []) target := by
      intro target kt
      show SS p e below s₁ (mkF m 0 #[vi p0, vi (1 : Int32), uu] []) _
      refine XS.iloadN X0.here hx rfl (hb hby d3_0) rfl ?_
      show SS p e below s₁ (mkF m 1 #[vi p0, vi (1 : Int32), uu] [(.int p0)]) _
      refine XS.ifYes X0.here hx rfl (pc0 := 1) (pc' := 25) rfl (hb hby d3_1) rfl ((if0 _ _).trans (feq (hq_0 : ¬ (p0 = (0 : Int32)))).2) (by decide) (by decide) ?_
      show SS p e below s₁ (mkF m 25 #[vi p0, vi (1 : Int32), uu] []) _
      refine XS.iloadN X0.here hx rfl (hb hby d3_25) rfl ?_
      show SS p e below s₁ (mkF m 26 #[vi p0, vi (1 : Int32), uu] [(.int p0)]) _
      refine XS.iconst X0.here hx rfl (hb hby d3_26) ?_
      exact kt
    by_cases hq_1 : p0 = (1 : Int32)
    · obtain ⟨b7, T7, h7, kk7, t7, kc7, X7, e7, E7, hS7, hk7, hZ7, hown7, fE7, fC7, fV7, fK7, lta7, ltb7, CH7, -, SF7, st7⟩ := ldcCH X0 hx hZ hown (wd hw 96 rfl) (fun d hd => hw d (own_strAtoms d hd)) e0 hS0 hk0 (own_EW hw) (by decide) hC0 (vs := [(.int (64 : Int32)), (.int (105 : Int32)), (.int (100 : Int32))]) (z := (3 : Int32)) ⟨by decide, by decide⟩ (by decide) (by decide) (g := (mkF m 30 #[vi p0, vi (1 : Int32), uu] [])) rfl (hb hby d3_30) (n := 12) (by decide) (by decide) (by decide) (by decide)
      have Re8 := R0.trans CH7
      have hCe8 := Re8.1
      have K7 : Keep h0 h7 [] := (Keep.refl h0 []).ext E7
      have Z7 : n0 ≤ h7.size := Nat.le_trans Z0 E7.1
      have c10 := (uO.ext E7)
      obtain ⟨cq9, kq9, q9a, q9b, q9c⟩ := isOf hZ7 e7 fE7
      obtain ⟨_, _, ⟨T9, Lw9, kw9, nw9⟩, -, X9, ⟨Lc9, hQ9, lq9, yq9, zq9⟩, st9⟩ := X7.virtualBack hx (y := (⟨"java/lang/String", "length", "()I"⟩ : MethodName)) (z := (⟨"java/lang/String", "length", "()I"⟩ : MethodName)) hown7 (mvT hZ7 (wd hw 19 rfl)) (mvT hZ7 (wd hw 20 rfl)) (notFace_of_selects (args := #[]) (mvT hZ7 (wd hw 22 rfl))) (mvT hZ7 (wd hw 22 rfl)) (mvT hZ7 (wd hw 21 rfl)) (by decide) (StrChars.Road.lenW (W := 1) hZ7 (fun d hd => hw d (own_w_wordsLen d hd)) (kI := 4) (wd hw 13 rfl) fE7 fV7 fC7 fK7 (StrChars.Road.codOf (cs := ([64, 105, 100] : List Int32)) (n := 3) rfl (fun c hc => (own_hp1 c hc).2)) (own_up own_hp1) (uS.ext c10.2) uP (Nat.le_of_ble_eq_true rfl) (by decide) (by decide)) q9a q9c (g := (mkF m 35 #[vi p0, vi (1 : Int32), vr b7] [(.ref b7), (.int (1 : Int32))])) rfl (by rw [hml]; rfl) (Steps.refl _) (argsL := []) (rest := [(.int (1 : Int32))]) (lenOf pd_0 rfl) rfl (by show 2 * 0 + _ ≤ _; exact Nat.le_of_eq rfl) (hb hby d3_35) (fun _ _ => ⟨rfl, e7, (by decide : 2 + 0 ≤ _), (by decide : 16 + 0 ≤ _)⟩)
      dsimp only [Pt.U, Pt.locs, Pt.cells, Pt.slots] at X9 lq9 yq9 zq9 st9 hQ9
      have X9 := own_reb X9 lq9 yq9 zq9
      obtain ⟨rfl, rfl, eh9⟩ := hQ9
      have N9 := Fr.app N0 (Fr.nil n0)
      obtain ⟨cq11, kq11, q11a, q11b, q11c⟩ := isOf hZ7 eh9 fE7
      obtain ⟨_, _, ⟨T11, Lw11, kw11, nw11⟩, -, X11, ⟨Lc11, hQ11, lq11, yq11, zq11⟩, st11⟩ := X9.virtualBack hx (y := (⟨"java/lang/String", "charAt", "(I)C"⟩ : MethodName)) (z := (⟨"java/lang/String", "charAt", "(I)C"⟩ : MethodName)) hown7 (mvT hZ7 (wd hw 32 rfl)) (mvT hZ7 (wd hw 33 rfl)) (notFace_of_selects (args := #[]) (mvT hZ7 (wd hw 35 rfl))) (mvT hZ7 (wd hw 35 rfl)) (mvT hZ7 (wd hw 34 rfl)) (by decide) (StrChars.Road.chN (W := 0) hZ7 (fun d hd => hw d (own_w_wordsChN d hd)) (kI := 4) (wd hw 13 rfl) fE7 fV7 fC7 fK7 (StrChars.Road.codOf (cs := ([64, 105, 100] : List Int32)) (n := 3) rfl (fun c hc => (own_hp1 c hc).2)) (own_up own_hp1) (uS.ext c10.2) uP (uF.ext c10.2) uR (Nat.le_of_ble_eq_true rfl) (i := 1) (Nat.le_of_ble_eq_true rfl) (j := (1 : Int32)) rfl (by decide) (by decide)) q11a q11c (g := (mkF m 43 #[vi p0, vi (1 : Int32), vr b7] [(.int (1 : Int32)), (.ref b7)])) rfl (by rw [hml]; rfl) (Steps.refl _) (argsL := [(.int (1 : Int32))]) (rest := []) (lenOf pd_1 rfl) rfl (by show 2 * 0 + _ ≤ _; exact Nat.le_of_eq rfl) (hb hby d3_43) (fun _ _ => ⟨rfl, eh9, (by decide : 2 + 0 ≤ _), (by decide : 16 + 0 ≤ _)⟩)
      dsimp only [Pt.U, Pt.locs, Pt.cells, Pt.slots] at X11 lq11 yq11 zq11 st11 hQ11
      have X11 := own_reb X11 lq11 yq11 zq11
      obtain ⟨rfl, rfl, eh11⟩ := hQ11
      have N11 := Fr.app N9 (Fr.nil n0)
      obtain ⟨fs, hr, hrun, hended, en1, en2, en3, en4⟩ := X11.leaveW hS7 (own_hk eh11 hk7) (v := some (.int (nar .char (105 : Int32)))) (fun h => by rw [Bd.returns] at h; cases h)
      refine ⟨_, _, pre0 _ ?_, hrun, hended, _, _, rfl, ?_, own_chr (T := T11) hh eh11 (Re8.trans (CHv.at X11 hZ7 (own_EW hw) hCe8)), en1, en2, en3, en4.mono (by decide) (by decide)⟩
      · refine sg6 _ ?_
        show SS p e below s₁ (mkF m 27 #[vi p0, vi (1 : Int32), uu] [(.int (1 : Int32)), (.int p0)]) _
        refine XS.icmpNo X0.here hx rfl (hb hby d3_27) rfl (teq (hq_1 : p0 = (1 : Int32))).2 ?_
        show SS p e below s₁ (mkF m 30 #[vi p0, vi (1 : Int32), uu] []) _
        refine st7 _ ?_
        show SS p e below T7 (mkF m 32 #[vi p0, vi (1 : Int32), uu] [(.ref b7)]) _
        refine XS.astoreN X7.here hx rfl (hb hby d3_32) rfl rfl (l' := #[vi p0, vi (1 : Int32), vr b7]) rfl ?_
        show SS p e below T7 (mkF m 33 #[vi p0, vi (1 : Int32), vr b7] []) _
        refine XS.iloadN X7.here hx rfl (hb hby d3_33) rfl ?_
        show SS p e below T7 (mkF m 34 #[vi p0, vi (1 : Int32), vr b7] [(.int (1 : Int32))]) _
        refine XS.aloadN X7.here hx rfl (hb hby d3_34) rfl rfl ?_
        show SS p e below T7 (mkF m 35 #[vi p0, vi (1 : Int32), vr b7] [(.ref b7), (.int (1 : Int32))]) _
        refine st9.trans ?_
        show SS p e below T9 (mkF m 38 #[vi p0, vi (1 : Int32), vr b7] [(.int (3 : Int32)), (.int (1 : Int32))]) _
        refine XS.icmpNo X9.here hx rfl (hb hby d3_38) rfl (tlt (by decide : (1 : Int32) < (3 : Int32))).2.1 ?_
        show SS p e below T9 (mkF m 41 #[vi p0, vi (1 : Int32), vr b7] []) _
        refine XS.aloadN X9.here hx rfl (hb hby d3_41) rfl rfl ?_
        show SS p e below T9 (mkF m 42 #[vi p0, vi (1 : Int32), vr b7] [(.ref b7)]) _
        refine XS.iloadN X9.here hx rfl (hb hby d3_42) rfl ?_
        show SS p e below T9 (mkF m 43 #[vi p0, vi (1 : Int32), vr b7] [(.int (1 : Int32)), (.ref b7)]) _
        refine st11.trans ?_
        show SS p e below T11 (mkF m 46 #[vi p0, vi (1 : Int32), vr b7] [(.int (105 : Int32))]) _
        refine XS.goto X11.here hx rfl (pc0 := 46) (pc' := 50) rfl (hb hby d3_46) (by decide) (by decide) ?_
        show SS p e below T11 (mkF m 50 #[vi p0, vi (1 : Int32), vr b7] [(.int (105 : Int32))]) _
        exact retN X11 hx (t := .char) Bd.returns (by simp) (hb hby d3_50) hr
      · show Q_rmT1 Z p0 zc fm h0 n0 _ T11.heap _
        rw [eh11]
        exact ⟨(nar .char (105 : Int32)), rfl, N11, K7, (by decide)⟩
    · have sg12 : ∀ target, SS p e below s₁ (mkF m 53 #[vi p0, vi (1 : Int32), uu] [(.int (2 : Int32)), (.int p0)]) target → SS p e below s₁ (mkF m 27 #[vi p0, vi (1 : Int32), uu] [(.int (1 : Int32)), (.int p0)]) target := by
        intro target kt
        show SS p e below s₁ (mkF m 27 #[vi p0, vi (1 : Int32), uu] [(.int (1 : Int32)), (.int p0)]) _
        refine XS.icmpYes X0.here hx rfl (pc0 := 27) (pc' := 51) rfl (hb hby d3_27) rfl (feq (hq_1 : ¬ (p0 = (1 : Int32)))).2 (by decide) (by decide) ?_
        show SS p e below s₁ (mkF m 51 #[vi p0, vi (1 : Int32), uu] []) _
        refine XS.iloadN X0.here hx rfl (hb hby d3_51) rfl ?_
        show SS p e below s₁ (mkF m 52 #[vi p0, vi (1 : Int32), uu] [(.int p0)]) _
        refine XS.iconst X0.here hx rfl (hb hby d3_52) ?_
        exact kt
      by_cases hq_2 : p0 = (2 : Int32)
      · obtain ⟨b13, T13, h13, kk13, t13, kc13, X13, e13, E13, hS13, hk13, hZ13, hown13, fE13, fC13, fV13, fK13, lta13, ltb13, CH13, -, SF13, st13⟩ := ldcCH X0 hx hZ hown (wd hw 97 rfl) (fun d hd => hw d (own_strAtoms d hd)) e0 hS0 hk0 (own_EW hw) (by decide) hC0 (vs := [(.int (64 : Int32)), (.int (114 : Int32)), (.int (101 : Int32)), (.int (102 : Int32))]) (z := (4 : Int32)) ⟨by decide, by decide⟩ (by decide) (by decide) (g := (mkF m 56 #[vi p0, vi (1 : Int32), uu] [])) rfl (hb hby d3_56) (n := 16) (by decide) (by decide) (by decide) (by decide)
        have Re14 := R0.trans CH13
        have hCe14 := Re14.1
        have K13 : Keep h0 h13 [] := (Keep.refl h0 []).ext E13
        have Z13 : n0 ≤ h13.size := Nat.le_trans Z0 E13.1
        have c16 := (uO.ext E13)
        obtain ⟨cq15, kq15, q15a, q15b, q15c⟩ := isOf hZ13 e13 fE13
        obtain ⟨_, _, ⟨T15, Lw15, kw15, nw15⟩, -, X15, ⟨Lc15, hQ15, lq15, yq15, zq15⟩, st15⟩ := X13.virtualBack hx (y := (⟨"java/lang/String", "length", "()I"⟩ : MethodName)) (z := (⟨"java/lang/String", "length", "()I"⟩ : MethodName)) hown13 (mvT hZ13 (wd hw 19 rfl)) (mvT hZ13 (wd hw 20 rfl)) (notFace_of_selects (args := #[]) (mvT hZ13 (wd hw 22 rfl))) (mvT hZ13 (wd hw 22 rfl)) (mvT hZ13 (wd hw 21 rfl)) (by decide) (StrChars.Road.lenW (W := 1) hZ13 (fun d hd => hw d (own_w_wordsLen d hd)) (kI := 4) (wd hw 13 rfl) fE13 fV13 fC13 fK13 (StrChars.Road.codOf (cs := ([64, 114, 101, 102] : List Int32)) (n := 4) rfl (fun c hc => (own_hp2 c hc).2)) (own_up own_hp2) (uS.ext c16.2) uP (Nat.le_of_ble_eq_true rfl) (by decide) (by decide)) q15a q15c (g := (mkF m 61 #[vi p0, vi (1 : Int32), vr b13] [(.ref b13), (.int (1 : Int32))])) rfl (by rw [hml]; rfl) (Steps.refl _) (argsL := []) (rest := [(.int (1 : Int32))]) (lenOf pd_0 rfl) rfl (by show 2 * 0 + _ ≤ _; exact Nat.le_of_eq rfl) (hb hby d3_61) (fun _ _ => ⟨rfl, e13, (by decide : 2 + 0 ≤ _), (by decide : 20 + 0 ≤ _)⟩)
        dsimp only [Pt.U, Pt.locs, Pt.cells, Pt.slots] at X15 lq15 yq15 zq15 st15 hQ15
        have X15 := own_reb X15 lq15 yq15 zq15
        obtain ⟨rfl, rfl, eh15⟩ := hQ15
        have N15 := Fr.app N0 (Fr.nil n0)
        obtain ⟨cq17, kq17, q17a, q17b, q17c⟩ := isOf hZ13 eh15 fE13
        obtain ⟨_, _, ⟨T17, Lw17, kw17, nw17⟩, -, X17, ⟨Lc17, hQ17, lq17, yq17, zq17⟩, st17⟩ := X15.virtualBack hx (y := (⟨"java/lang/String", "charAt", "(I)C"⟩ : MethodName)) (z := (⟨"java/lang/String", "charAt", "(I)C"⟩ : MethodName)) hown13 (mvT hZ13 (wd hw 32 rfl)) (mvT hZ13 (wd hw 33 rfl)) (notFace_of_selects (args := #[]) (mvT hZ13 (wd hw 35 rfl))) (mvT hZ13 (wd hw 35 rfl)) (mvT hZ13 (wd hw 34 rfl)) (by decide) (StrChars.Road.chN (W := 0) hZ13 (fun d hd => hw d (own_w_wordsChN d hd)) (kI := 4) (wd hw 13 rfl) fE13 fV13 fC13 fK13 (StrChars.Road.codOf (cs := ([64, 114, 101, 102] : List Int32)) (n := 4) rfl (fun c hc => (own_hp2 c hc).2)) (own_up own_hp2) (uS.ext c16.2) uP (uF.ext c16.2) uR (Nat.le_of_ble_eq_true rfl) (i := 1) (Nat.le_of_ble_eq_true rfl) (j := (1 : Int32)) rfl (by decide) (by decide)) q17a q17c (g := (mkF m 69 #[vi p0, vi (1 : Int32), vr b13] [(.int (1 : Int32)), (.ref b13)])) rfl (by rw [hml]; rfl) (Steps.refl _) (argsL := [(.int (1 : Int32))]) (rest := []) (lenOf pd_1 rfl) rfl (by show 2 * 0 + _ ≤ _; exact Nat.le_of_eq rfl) (hb hby d3_69) (fun _ _ => ⟨rfl, eh15, (by decide : 2 + 0 ≤ _), (by decide : 20 + 0 ≤ _)⟩)
        dsimp only [Pt.U, Pt.locs, Pt.cells, Pt.slots] at X17 lq17 yq17 zq17 st17 hQ17
        have X17 := own_reb X17 lq17 yq17 zq17
        obtain ⟨rfl, rfl, eh17⟩ := hQ17
        have N17 := Fr.app N15 (Fr.nil n0)
        obtain ⟨fs, hr, hrun, hended, en1, en2, en3, en4⟩ := X17.leaveW hS13 (own_hk eh17 hk13) (v := some (.int (nar .char (114 : Int32)))) (fun h => by rw [Bd.returns] at h; cases h)
        refine ⟨_, _, pre0 _ ?_, hrun, hended, _, _, rfl, ?_, own_chr (T := T17) hh eh17 (Re14.trans (CHv.at X17 hZ13 (own_EW hw) hCe14)), en1, en2, en3, en4.mono (by decide) (by decide)⟩
        · refine sg6 _ ?_
          refine sg12 _ ?_
          show SS p e below s₁ (mkF m 53 #[vi p0, vi (1 : Int32), uu] [(.int (2 : Int32)), (.int p0)]) _
          refine XS.icmpNo X0.here hx rfl (hb hby d3_53) rfl (teq (hq_2 : p0 = (2 : Int32))).2 ?_
          show SS p e below s₁ (mkF m 56 #[vi p0, vi (1 : Int32), uu] []) _
          refine st13 _ ?_
          show SS p e below T13 (mkF m 58 #[vi p0, vi (1 : Int32), uu] [(.ref b13)]) _
          refine XS.astoreN X13.here hx rfl (hb hby d3_58) rfl rfl (l' := #[vi p0, vi (1 : Int32), vr b13]) rfl ?_
          show SS p e below T13 (mkF m 59 #[vi p0, vi (1 : Int32), vr b13] []) _
          refine XS.iloadN X13.here hx rfl (hb hby d3_59) rfl ?_
          show SS p e below T13 (mkF m 60 #[vi p0, vi (1 : Int32), vr b13] [(.int (1 : Int32))]) _
          refine XS.aloadN X13.here hx rfl (hb hby d3_60) rfl rfl ?_
          show SS p e below T13 (mkF m 61 #[vi p0, vi (1 : Int32), vr b13] [(.ref b13), (.int (1 : Int32))]) _
          refine st15.trans ?_
          show SS p e below T15 (mkF m 64 #[vi p0, vi (1 : Int32), vr b13] [(.int (4 : Int32)), (.int (1 : Int32))]) _
          refine XS.icmpNo X15.here hx rfl (hb hby d3_64) rfl (tlt (by decide : (1 : Int32) < (4 : Int32))).2.1 ?_
          show SS p e below T15 (mkF m 67 #[vi p0, vi (1 : Int32), vr b13] []) _
          refine XS.aloadN X15.here hx rfl (hb hby d3_67) rfl rfl ?_
          show SS p e below T15 (mkF m 68 #[vi p0, vi (1 : Int32), vr b13] [(.ref b13)]) _
          refine XS.iloadN X15.here hx rfl (hb hby d3_68) rfl ?_
          show SS p e below T15 (mkF m 69 #[vi p0, vi (1 : Int32), vr b13] [(.int (1 : Int32)), (.ref b13)]) _
          refine st17.trans ?_
          show SS p e below T17 (mkF m 72 #[vi p0, vi (1 : Int32), vr b13] [(.int (114 : Int32))]) _
          refine XS.goto X17.here hx rfl (pc0 := 72) (pc' := 76) rfl (hb hby d3_72) (by decide) (by decide) ?_
          show SS p e below T17 (mkF m 76 #[vi p0, vi (1 : Int32), vr b13] [(.int (114 : Int32))]) _
          exact retN X17 hx (t := .char) Bd.returns (by simp) (hb hby d3_76) hr
        · show Q_rmT1 Z p0 zc fm h0 n0 _ T17.heap _
          rw [eh17]
          exact ⟨(nar .char (114 : Int32)), rfl, N17, K13, (by decide)⟩
      · obtain ⟨fs, hr, hrun, hended, en1, en2, en3, en4⟩ := X0.leaveW hS0 (own_hk e0 hk0) (v := some (.int (nar .char (0 : Int32)))) (fun h => by rw [Bd.returns] at h; cases h)
        refine ⟨_, _, pre0 _ ?_, hrun, hended, _, _, rfl, ?_, own_chr (T := s₁) hh e0 (R0.trans (CHv.at X0 hZ (own_EW hw) hC0)), en1, en2, en3, en4.mono (by decide) (by decide)⟩
        · refine sg6 _ ?_
          refine sg12 _ ?_
          show SS p e below s₁ (mkF m 53 #[vi p0, vi (1 : Int32), uu] [(.int (2 : Int32)), (.int p0)]) _
          refine XS.icmpYes X0.here hx rfl (pc0 := 53) (pc' := 77) rfl (hb hby d3_53) rfl (feq (hq_2 : ¬ (p0 = (2 : Int32)))).2 (by decide) (by decide) ?_
          show SS p e below s₁ (mkF m 77 #[vi p0, vi (1 : Int32), uu] []) _
          refine XS.iconst X0.here hx rfl (hb hby d3_77) ?_
          show SS p e below s₁ (mkF m 78 #[vi p0, vi (1 : Int32), uu] [(.int (0 : Int32))]) _
          exact retN X0 hx (t := .char) Bd.returns (by simp) (hb hby d3_78) hr
        · show Q_rmT1 Z p0 zc fm h0 n0 _ s₁.heap _
          rw [e0]
          exact ⟨(nar .char (0 : Int32)), rfl, N0, (Keep.refl h0 []), (by decide)⟩
theorem ef_4 (m : MethodId) (x0 : Int32) (x2 : Int32) (x3 : Int64) : entryFrame m #[(.int x0), (.int (1 : Int32)), (.int x2), (.long x3)] 7 = mkF m 0 #[vi x0, vi (1 : Int32), vi x2, vl x3, us, uu, uu] [] := by first | (simp [entryFrame, mkF, argsToLocals, Value.category]; done) | rfl
def Q_rmP1 (Z : State) (p0 : Int32) (p2 : Int32) (q3 : Int64) (zc : Int32) (fm : Value) (h0 : Heap) (n0 : Nat) (v : Option Value) (h : Heap) (L : List Loc) : Prop := ∃ (cv : Int32), (v = some (.int cv) ∧ Fr n0 L ∧ Keep h0 h [] ∧ ¬ cv < 0 ∧ ¬ (255 : Int32) < cv)
set_option maxRecDepth 65536 in
set_option maxHeartbeats 40000000 in
theorem rmP1 (l : Launch) (Z : State) (a0 : Array Value) (hw : ∀ d ∈ tables_1, d.before a0 Z = true) (ws : List Jvm.Cond) (p0 : Int32) (p2 : Int32) (q3 : Int64) (zc : Int32) (fm : Value) (h0 : Heap) (n0 : Nat) (Z0 : n0 ≤ h0.size) (uO : Old Z n0 h0) (uS : Sta Z Z.heap "java/lang/String" "COMPACT_STRINGS" "Z" (.int zc)) (uF : Sta Z Z.heap "jdk/internal/util/Preconditions" "SIOOBE_FORMATTER" "Ljava/util/function/BiFunction;" fm) (uP : ¬ zc = 0) (uR : fm.isRef = true) :
    MetFree l (⟨"com/example/wireform/wireform/json/JsonIsReservedPinLaw", "pick", "(IIIJ)C"⟩ : MethodName) (head1 (Jvm.Cond.code (⟨"com/example/wireform/wireform/json/JsonIsReservedPinLaw", "pick", "(IIIJ)C"⟩ : MethodName) method_5_code 7 (some .char) :: ws) ({ frames := 5, cells := 2, slots := 24, locals := 67 } : Room)) (fun a U => a = #[(.int p0), (.int (1 : Int32)), (.int p2), (.long q3)] ∧ Z.Warmed39 U.vm ∧ U.heap = h0 ∧ CHv Z own_EL U.vm h0) (fun _ _ _ _ _ => True) (fun _ U o U' => ∃ v L, o = .returned v ∧ Q_rmP1 Z p0 p2 q3 zc fm h0 n0 v U'.heap L ∧ CHr Z own_EL U.vm U.heap U'.vm U'.heap ∧ ReturnedEndW U o U' L ({ frames := 5, cells := 2, slots := 24, locals := 67 } : Room).cells ({ frames := 5, cells := 2, slots := 24, locals := 67 } : Room).slots) := by
  refine MetFree.of_bodySF (plainFor_of_name pn_0) hisR ?_
  intro p e s m args below meth c s₁ Bd hml0 hP hK
  obtain ⟨rfl, hZ, hh, hC0⟩ := hP
  have hx := Bd.exec
  have hby := Bd.bytes
  have hml : c.maxLocals = 7 := hml0
  have hown : s.vm.findClass "com/example/wireform/wireform/json/JsonIsReservedPinLaw" = some m.cls := findClass_of_methodNamed Bd.named
  have hnm := (name_of_methodNamed Bd.named Bd.method).1
  have X0 : Stand p l e ({ frames := 5, cells := 2, slots := 24, locals := 67 } : Room) (s.setVm s.vm) m #[(.int p0), (.int (1 : Int32)), (.int p2), (.long q3)] below meth c s₁ [] 0 0 := Stand.of_body Bd
  have e0 : s₁.heap = h0 := by rw [← hh, Bd.state]; rfl
  have N0 := Fr.nil n0
  have pre0 : ∀ t, Steps p.tables e below (s₁.setTop (mkF m 0 #[vi p0, vi (1 : Int32), vi p2, vl q3, us, uu, uu] [])) t → Steps p.tables e below (s₁.setTop (entryFrame m #[(.int p0), (.int (1 : Int32)), (.int p2), (.long q3)] 7)) t := fun t k => castTop (ef_4 m p0 p2 q3) k
  have hS0 : s.Since s.vm 0 := (State.WarmedH.refl s).since _
  have hk0 : 0 ≤ h0.size := Nat.zero_le _
  have R0 := CHr.refl hC0
  obtain ⟨_, _, ⟨T1, Lw1, kw1, nw1⟩, -, X1, ⟨Lc1, hQ1, lq1, yq1, zq1⟩, st1⟩ := Jvm.LawKit.callS X0 hx (y := (⟨"com/example/wireform/wireform/json/JsonIsReservedPinLaw", "drawn", "(IJ)C"⟩ : MethodName)) hown (mvT hZ (wd hw 4 rfl)) (mvT hZ (wd hw 5 rfl)) (mvT hZ (wd hw 2 rfl)) (mvT hZ (wd hw 6 rfl)) (by decide) (backOf (W := 0) (rmD l Z a0 hw [] (1 : Int32) q3 h0 n0 Z0) hZ (wd hw 6 rfl) (wd hw 2 rfl) (by decide) (by decide)) (g := (mkF m 2 #[vi p0, vi (1 : Int32), vi p2, vl q3, us, uu, uu] [(.long q3), (.int (1 : Int32))])) rfl (by rw [hml]; rfl) (argsL := [(.int (1 : Int32)), (.long q3)]) (rest := []) (lenOf pd_2 rfl) rfl (by show 2 * 0 + _ ≤ _; exact Nat.le_of_eq rfl) (hb hby d1_2) (fun _ _ => ⟨rfl, e0, (by decide : 0 + 0 ≤ _), (by decide : 0 + 0 ≤ _)⟩)
  dsimp only [Pt.U, Pt.locs, Pt.cells, Pt.slots] at X1 lq1 yq1 zq1 st1 hQ1
  have X1 := own_reb X1 lq1 yq1 zq1
  obtain ⟨rfl, Nq1, eh1⟩ := hQ1
  have N1 := Fr.app N0 Nq1
  have sg2 : ∀ target, SS p e below T1 (mkF m 9 #[vi p0, vi (1 : Int32), vi p2, vl q3, us, vi (own_d (1 : Int32) q3), uu] [(.int p2), (.int (1 : Int32))]) target → SS p e below s₁ (mkF m 0 #[vi p0, vi (1 : Int32), vi p2, vl q3, us, uu, uu] []) target := by
    intro target kt
    show SS p e below s₁ (mkF m 0 #[vi p0, vi (1 : Int32), vi p2, vl q3, us, uu, uu] []) _
    refine XS.iloadN X0.here hx rfl (hb hby d1_0) rfl ?_
    show SS p e below s₁ (mkF m 1 #[vi p0, vi (1 : Int32), vi p2, vl q3, us, uu, uu] [(.int (1 : Int32))]) _
    refine XS.lloadN X0.here hx rfl (hb hby d1_1) rfl ?_
    show SS p e below s₁ (mkF m 2 #[vi p0, vi (1 : Int32), vi p2, vl q3, us, uu, uu] [(.long q3), (.int (1 : Int32))]) _
    refine st1 _ ?_
    show SS p e below T1 (mkF m 5 #[vi p0, vi (1 : Int32), vi p2, vl q3, us, uu, uu] [(.int (own_d (1 : Int32) q3))]) _
    refine XS.istore X1.here hx rfl (hb hby d1_5) rfl (l' := #[vi p0, vi (1 : Int32), vi p2, vl q3, us, vi (own_d (1 : Int32) q3), uu]) rfl ?_
    show SS p e below T1 (mkF m 7 #[vi p0, vi (1 : Int32), vi p2, vl q3, us, vi (own_d (1 : Int32) q3), uu] []) _
    refine XS.iloadN X1.here hx rfl (hb hby d1_7) rfl ?_
    show SS p e below T1 (mkF m 8 #[vi p0, vi (1 : Int32), vi p2, vl q3, us, vi (own_d (1 : Int32) q3), uu] [(.int (1 : Int32))]) _
    refine XS.iloadN X1.here hx rfl (hb hby d1_8) rfl ?_
    exact kt
  by_cases hm : (1 : Int32) = p2
  · obtain ⟨fs, hr, hrun, hended, en1, en2, en3, en4⟩ := X1.leaveW hS0 (own_hk eh1 hk0) (v := some (.int (nar .char (own_d (1 : Int32) q3)))) (fun h => by rw [Bd.returns] at h; cases h)
    refine ⟨_, _, pre0 _ ?_, hrun, hended, _, _, rfl, ?_, own_chr (T := T1) hh eh1 (R0.trans (CHv.at X1 hZ (own_EW hw) hC0)), en1, en2, en3, en4.mono (by decide) (by decide)⟩
    · refine sg2 _ ?_
      show SS p e below T1 (mkF m 9 #[vi p0, vi (1 : Int32), vi p2, vl q3, us, vi (own_d (1 : Int32) q3), uu] [(.int p2), (.int (1 : Int32))]) _
      refine XS.icmpNo X1.here hx rfl (hb hby d1_9) rfl (teq (hm : (1 : Int32) = p2)).2 ?_
      show SS p e below T1 (mkF m 12 #[vi p0, vi (1 : Int32), vi p2, vl q3, us, vi (own_d (1 : Int32) q3), uu] []) _
      refine XS.iload X1.here hx rfl (hb hby d1_12) rfl ?_
      show SS p e below T1 (mkF m 14 #[vi p0, vi (1 : Int32), vi p2, vl q3, us, vi (own_d (1 : Int32) q3), uu] [(.int (own_d (1 : Int32) q3))]) _
      exact retN X1 hx (t := .char) Bd.returns (by simp) (hb hby d1_14) hr
    · show Q_rmP1 Z p0 p2 q3 zc fm h0 n0 _ T1.heap _
      rw [eh1]
      exact ⟨(nar .char (own_d (1 : Int32) q3)), rfl, N1, (Keep.refl h0 []), (own_nb (own_db _ _))⟩
  · obtain ⟨_, _, ⟨T3, Lw3, kw3, nw3⟩, -, X3', hS3', hg3, ⟨Lc3, hQ3, lq3, yq3, zq3, CH3⟩, st3⟩ := callSS X1 hx (y := (⟨"com/example/wireform/wireform/json/JsonIsReservedPinLaw", "templ", "(II)C"⟩ : MethodName)) hown (mvT hZ (wd hw 8 rfl)) (mvT hZ (wd hw 9 rfl)) (mvT hZ (wd hw 2 rfl)) (mvT hZ (wd hw 10 rfl)) (by decide) (backOfSH (W := 0) (rmT1 l Z a0 hw [] p0 zc fm h0 n0 Z0 uO uS uF uP uR) hZ (wd hw 10 rfl) (wd hw 2 rfl) (by decide) (by decide) (own_EW hw) hC0) (g := (mkF m 17 #[vi p0, vi (1 : Int32), vi p2, vl q3, us, vi (own_d (1 : Int32) q3), uu] [(.int (1 : Int32)), (.int p0)])) rfl (by rw [hml]; rfl) (argsL := [(.int p0), (.int (1 : Int32))]) (rest := []) (lenOf pd_3 rfl) rfl (by show 2 * 0 + _ ≤ _; exact Nat.le_of_eq rfl) (hb hby d1_17) (fun _ _ => ⟨rfl, eh1, (by decide : 0 + 2 ≤ _), (by decide : 0 + 24 ≤ _)⟩)
    dsimp only [Pt.U, Pt.locs, Pt.cells, Pt.slots] at X3' hS3' hg3 lq3 yq3 zq3 st3 hQ3 CH3
    have X3' := own_reb X3' lq3 yq3 zq3
    obtain ⟨X3, hS3, hZ3, hown3⟩ := rebS hS0 (own_hk eh1 hk0) X3' hS3' hg3 hZ hown
    obtain ⟨cv_3, rfl, Nq3, Kq3, f3_0⟩ := hQ3
    have N3 := Fr.app N1 Nq3
    have Re4 := R0.trans CH3
    have hCe4 := Re4.1
    have K3 : Keep h0 T3.heap [] := (Keep.refl h0 []).trans Kq3 all0
    have Z3 : n0 ≤ T3.heap.size := Nat.le_trans Z0 Kq3.1
    have hk3 : T3.heap.size ≤ T3.heap.size := Nat.le_refl _
    have sg5 : ∀ target, SS p e below T3 (mkF m 24 #[vi p0, vi (1 : Int32), vi p2, vl q3, us, vi (own_d (1 : Int32) q3), vi cv_3] [(.int cv_3)]) target → SS p e below T1 (mkF m 9 #[vi p0, vi (1 : Int32), vi p2, vl q3, us, vi (own_d (1 : Int32) q3), uu] [(.int p2), (.int (1 : Int32))]) target := by
      intro target kt
      show SS p e below T1 (mkF m 9 #[vi p0, vi (1 : Int32), vi p2, vl q3, us, vi (own_d (1 : Int32) q3), uu] [(.int p2), (.int (1 : Int32))]) _
      refine XS.icmpYes X1.here hx rfl (pc0 := 9) (pc' := 15) rfl (hb hby d1_9) rfl (feq (hm : ¬ ((1 : Int32) = p2))).2 (by decide) (by decide) ?_
      show SS p e below T1 (mkF m 15 #[vi p0, vi (1 : Int32), vi p2, vl q3, us, vi (own_d (1 : Int32) q3), uu] []) _
      refine XS.iloadN X1.here hx rfl (hb hby d1_15) rfl ?_
      show SS p e below T1 (mkF m 16 #[vi p0, vi (1 : Int32), vi p2, vl q3, us, vi (own_d (1 : Int32) q3), uu] [(.int p0)]) _
      refine XS.iloadN X1.here hx rfl (hb hby d1_16) rfl ?_
      show SS p e below T1 (mkF m 17 #[vi p0, vi (1 : Int32), vi p2, vl q3, us, vi (own_d (1 : Int32) q3), uu] [(.int (1 : Int32)), (.int p0)]) _
      refine st3.trans ?_
      show SS p e below T3 (mkF m 20 #[vi p0, vi (1 : Int32), vi p2, vl q3, us, vi (own_d (1 : Int32) q3), uu] [(.int cv_3)]) _
      refine XS.istore X3.here hx rfl (hb hby d1_20) rfl (l' := #[vi p0, vi (1 : Int32), vi p2, vl q3, us, vi (own_d (1 : Int32) q3), vi cv_3]) rfl ?_
      show SS p e below T3 (mkF m 22 #[vi p0, vi (1 : Int32), vi p2, vl q3, us, vi (own_d (1 : Int32) q3), vi cv_3] []) _
      refine XS.iload X3.here hx rfl (hb hby d1_22) rfl ?_
      exact kt
    by_cases ht : cv_3 = (0 : Int32)
    · obtain ⟨fs, hr, hrun, hended, en1, en2, en3, en4⟩ := X3.leaveW hS3 (own_hk rfl hk3) (v := some (.int (nar .char (own_d (1 : Int32) q3)))) (fun h => by rw [Bd.returns] at h; cases h)
      refine ⟨_, _, pre0 _ ?_, hrun, hended, _, _, rfl, ?_, own_chr (T := T3) hh rfl (Re4.trans (CHv.at X3 hZ3 (own_EW hw) hCe4)), en1, en2, en3, en4.mono (by decide) (by decide)⟩
      · refine sg2 _ ?_
        refine sg5 _ ?_
        show SS p e below T3 (mkF m 24 #[vi p0, vi (1 : Int32), vi p2, vl q3, us, vi (own_d (1 : Int32) q3), vi cv_3] [(.int cv_3)]) _
        refine XS.ifNo X3.here hx rfl (hb hby d1_24) rfl ((if0 _ _).trans (teq (ht : cv_3 = (0 : Int32))).2) ?_
        show SS p e below T3 (mkF m 27 #[vi p0, vi (1 : Int32), vi p2, vl q3, us, vi (own_d (1 : Int32) q3), vi cv_3] []) _
        refine XS.iload X3.here hx rfl (hb hby d1_27) rfl ?_
        show SS p e below T3 (mkF m 29 #[vi p0, vi (1 : Int32), vi p2, vl q3, us, vi (own_d (1 : Int32) q3), vi cv_3] [(.int (own_d (1 : Int32) q3))]) _
        refine XS.goto X3.here hx rfl (pc0 := 29) (pc' := 34) rfl (hb hby d1_29) (by decide) (by decide) ?_
        show SS p e below T3 (mkF m 34 #[vi p0, vi (1 : Int32), vi p2, vl q3, us, vi (own_d (1 : Int32) q3), vi cv_3] [(.int (own_d (1 : Int32) q3))]) _
        exact retN X3 hx (t := .char) Bd.returns (by simp) (hb hby d1_34) hr
      · show Q_rmP1 Z p0 p2 q3 zc fm h0 n0 _ T3.heap _
        exact ⟨(nar .char (own_d (1 : Int32) q3)), rfl, N3, K3, (own_nb (own_db _ _))⟩
    · obtain ⟨fs, hr, hrun, hended, en1, en2, en3, en4⟩ := X3.leaveW hS3 (own_hk rfl hk3) (v := some (.int (nar .char cv_3))) (fun h => by rw [Bd.returns] at h; cases h)
      refine ⟨_, _, pre0 _ ?_, hrun, hended, _, _, rfl, ?_, own_chr (T := T3) hh rfl (Re4.trans (CHv.at X3 hZ3 (own_EW hw) hCe4)), en1, en2, en3, en4.mono (by decide) (by decide)⟩
      · refine sg2 _ ?_
        refine sg5 _ ?_
        show SS p e below T3 (mkF m 24 #[vi p0, vi (1 : Int32), vi p2, vl q3, us, vi (own_d (1 : Int32) q3), vi cv_3] [(.int cv_3)]) _
        refine XS.ifYes X3.here hx rfl (pc0 := 24) (pc' := 32) rfl (hb hby d1_24) rfl ((if0 _ _).trans (feq (ht : ¬ (cv_3 = (0 : Int32)))).2) (by decide) (by decide) ?_
        show SS p e below T3 (mkF m 32 #[vi p0, vi (1 : Int32), vi p2, vl q3, us, vi (own_d (1 : Int32) q3), vi cv_3] []) _
        refine XS.iload X3.here hx rfl (hb hby d1_32) rfl ?_
        show SS p e below T3 (mkF m 34 #[vi p0, vi (1 : Int32), vi p2, vl q3, us, vi (own_d (1 : Int32) q3), vi cv_3] [(.int cv_3)]) _
        exact retN X3 hx (t := .char) Bd.returns (by simp) (hb hby d1_34) hr
      · show Q_rmP1 Z p0 p2 q3 zc fm h0 n0 _ T3.heap _
        exact ⟨(nar .char cv_3), rfl, N3, K3, (own_nb f3_0)⟩
theorem ef_5 (m : MethodId) (x0 : Int32) : entryFrame m #[(.int x0), (.int (2 : Int32))] 3 = mkF m 0 #[vi x0, vi (2 : Int32), uu] [] := by first | (simp [entryFrame, mkF, argsToLocals, Value.category]; done) | rfl
def Q_rmT2 (Z : State) (p0 : Int32) (zc : Int32) (fm : Value) (h0 : Heap) (n0 : Nat) (v : Option Value) (h : Heap) (L : List Loc) : Prop := ∃ (cv : Int32), (v = some (.int cv) ∧ Fr n0 L ∧ Keep h0 h [] ∧ ¬ cv < 0 ∧ ¬ (255 : Int32) < cv)
set_option maxRecDepth 65536 in
set_option maxHeartbeats 40000000 in
theorem rmT2 (l : Launch) (Z : State) (a0 : Array Value) (hw : ∀ d ∈ tables_1, d.before a0 Z = true) (ws : List Jvm.Cond) (p0 : Int32) (zc : Int32) (fm : Value) (h0 : Heap) (n0 : Nat) (Z0 : n0 ≤ h0.size) (uO : Old Z n0 h0) (uS : Sta Z Z.heap "java/lang/String" "COMPACT_STRINGS" "Z" (.int zc)) (uF : Sta Z Z.heap "jdk/internal/util/Preconditions" "SIOOBE_FORMATTER" "Ljava/util/function/BiFunction;" fm) (uP : ¬ zc = 0) (uR : fm.isRef = true) :
    MetFree l (⟨"com/example/wireform/wireform/json/JsonIsReservedPinLaw", "templ", "(II)C"⟩ : MethodName) (head1 (Jvm.Cond.code (⟨"com/example/wireform/wireform/json/JsonIsReservedPinLaw", "templ", "(II)C"⟩ : MethodName) method_4_code 3 (some .char) :: ws) ({ frames := 4, cells := 2, slots := 24, locals := 53 } : Room)) (fun a U => a = #[(.int p0), (.int (2 : Int32))] ∧ Z.Warmed39 U.vm ∧ U.heap = h0 ∧ CHv Z own_EL U.vm h0) (fun _ _ _ _ _ => True) (fun _ U o U' => ∃ v L, o = .returned v ∧ Q_rmT2 Z p0 zc fm h0 n0 v U'.heap L ∧ CHr Z own_EL U.vm U.heap U'.vm U'.heap ∧ ReturnedEndW U o U' L ({ frames := 4, cells := 2, slots := 24, locals := 53 } : Room).cells ({ frames := 4, cells := 2, slots := 24, locals := 53 } : Room).slots) := by
  refine MetFree.of_bodySF (plainFor_of_name pn_0) hisR ?_
  intro p e s m args below meth c s₁ Bd hml0 hP hK
  obtain ⟨rfl, hZ, hh, hC0⟩ := hP
  have hx := Bd.exec
  have hby := Bd.bytes
  have hml : c.maxLocals = 3 := hml0
  have hown : s.vm.findClass "com/example/wireform/wireform/json/JsonIsReservedPinLaw" = some m.cls := findClass_of_methodNamed Bd.named
  have hnm := (name_of_methodNamed Bd.named Bd.method).1
  have X0 : Stand p l e ({ frames := 4, cells := 2, slots := 24, locals := 53 } : Room) (s.setVm s.vm) m #[(.int p0), (.int (2 : Int32))] below meth c s₁ [] 0 0 := Stand.of_body Bd
  have e0 : s₁.heap = h0 := by rw [← hh, Bd.state]; rfl
  have N0 := Fr.nil n0
  have pre0 : ∀ t, Steps p.tables e below (s₁.setTop (mkF m 0 #[vi p0, vi (2 : Int32), uu] [])) t → Steps p.tables e below (s₁.setTop (entryFrame m #[(.int p0), (.int (2 : Int32))] 3)) t := fun t k => castTop (ef_5 m p0) k
  have hS0 : s.Since s.vm 0 := (State.WarmedH.refl s).since _
  have hk0 : 0 ≤ h0.size := Nat.zero_le _
  have R0 := CHr.refl hC0
  by_cases hq_0 : p0 = (0 : Int32)
  · obtain ⟨b1, T1, h1, kk1, t1, kc1, X1, e1, E1, hS1, hk1, hZ1, hown1, fE1, fC1, fV1, fK1, lta1, ltb1, CH1, -, SF1, st1⟩ := ldcCH X0 hx hZ hown (wd hw 11 rfl) (fun d hd => hw d (own_strAtoms d hd)) e0 hS0 hk0 (own_EW hw) (by decide) hC0 (vs := [(.int (64 : Int32)), (.int (116 : Int32)), (.int (121 : Int32)), (.int (112 : Int32)), (.int (101 : Int32))]) (z := (5 : Int32)) ⟨by decide, by decide⟩ (by decide) (by decide) (g := (mkF m 4 #[vi p0, vi (2 : Int32), uu] [])) rfl (hb hby d3_4) (n := 20) (by decide) (by decide) (by decide) (by decide)
    have Re2 := R0.trans CH1
    have hCe2 := Re2.1
    have K1 : Keep h0 h1 [] := (Keep.refl h0 []).ext E1
    have Z1 : n0 ≤ h1.size := Nat.le_trans Z0 E1.1
    have c4 := (uO.ext E1)
    obtain ⟨cq3, kq3, q3a, q3b, q3c⟩ := isOf hZ1 e1 fE1
    obtain ⟨_, _, ⟨T3, Lw3, kw3, nw3⟩, -, X3, ⟨Lc3, hQ3, lq3, yq3, zq3⟩, st3⟩ := X1.virtualBack hx (y := (⟨"java/lang/String", "length", "()I"⟩ : MethodName)) (z := (⟨"java/lang/String", "length", "()I"⟩ : MethodName)) hown1 (mvT hZ1 (wd hw 19 rfl)) (mvT hZ1 (wd hw 20 rfl)) (notFace_of_selects (args := #[]) (mvT hZ1 (wd hw 22 rfl))) (mvT hZ1 (wd hw 22 rfl)) (mvT hZ1 (wd hw 21 rfl)) (by decide) (StrChars.Road.lenW (W := 1) hZ1 (fun d hd => hw d (own_w_wordsLen d hd)) (kI := 4) (wd hw 13 rfl) fE1 fV1 fC1 fK1 (StrChars.Road.codOf (cs := ([64, 116, 121, 112, 101] : List Int32)) (n := 5) rfl (fun c hc => (own_hp0 c hc).2)) (own_up own_hp0) (uS.ext c4.2) uP (Nat.le_of_ble_eq_true rfl) (by decide) (by decide)) q3a q3c (g := (mkF m 9 #[vi p0, vi (2 : Int32), vr b1] [(.ref b1), (.int (2 : Int32))])) rfl (by rw [hml]; rfl) (Steps.refl _) (argsL := []) (rest := [(.int (2 : Int32))]) (lenOf pd_0 rfl) rfl (by show 2 * 0 + _ ≤ _; exact Nat.le_of_eq rfl) (hb hby d3_9) (fun _ _ => ⟨rfl, e1, (by decide : 2 + 0 ≤ _), (by decide : 24 + 0 ≤ _)⟩)
    dsimp only [Pt.U, Pt.locs, Pt.cells, Pt.slots] at X3 lq3 yq3 zq3 st3 hQ3
    have X3 := own_reb X3 lq3 yq3 zq3
    obtain ⟨rfl, rfl, eh3⟩ := hQ3
    have N3 := Fr.app N0 (Fr.nil n0)
    obtain ⟨cq5, kq5, q5a, q5b, q5c⟩ := isOf hZ1 eh3 fE1
    obtain ⟨_, _, ⟨T5, Lw5, kw5, nw5⟩, -, X5, ⟨Lc5, hQ5, lq5, yq5, zq5⟩, st5⟩ := X3.virtualBack hx (y := (⟨"java/lang/String", "charAt", "(I)C"⟩ : MethodName)) (z := (⟨"java/lang/String", "charAt", "(I)C"⟩ : MethodName)) hown1 (mvT hZ1 (wd hw 32 rfl)) (mvT hZ1 (wd hw 33 rfl)) (notFace_of_selects (args := #[]) (mvT hZ1 (wd hw 35 rfl))) (mvT hZ1 (wd hw 35 rfl)) (mvT hZ1 (wd hw 34 rfl)) (by decide) (StrChars.Road.chN (W := 0) hZ1 (fun d hd => hw d (own_w_wordsChN d hd)) (kI := 4) (wd hw 13 rfl) fE1 fV1 fC1 fK1 (StrChars.Road.codOf (cs := ([64, 116, 121, 112, 101] : List Int32)) (n := 5) rfl (fun c hc => (own_hp0 c hc).2)) (own_up own_hp0) (uS.ext c4.2) uP (uF.ext c4.2) uR (Nat.le_of_ble_eq_true rfl) (i := 2) (Nat.le_of_ble_eq_true rfl) (j := (2 : Int32)) rfl (by decide) (by decide)) q5a q5c (g := (mkF m 17 #[vi p0, vi (2 : Int32), vr b1] [(.int (2 : Int32)), (.ref b1)])) rfl (by rw [hml]; rfl) (Steps.refl _) (argsL := [(.int (2 : Int32))]) (rest := []) (lenOf pd_1 rfl) rfl (by show 2 * 0 + _ ≤ _; exact Nat.le_of_eq rfl) (hb hby d3_17) (fun _ _ => ⟨rfl, eh3, (by decide : 2 + 0 ≤ _), (by decide : 24 + 0 ≤ _)⟩)
    dsimp only [Pt.U, Pt.locs, Pt.cells, Pt.slots] at X5 lq5 yq5 zq5 st5 hQ5
    have X5 := own_reb X5 lq5 yq5 zq5
    obtain ⟨rfl, rfl, eh5⟩ := hQ5
    have N5 := Fr.app N3 (Fr.nil n0)
    obtain ⟨fs, hr, hrun, hended, en1, en2, en3, en4⟩ := X5.leaveW hS1 (own_hk eh5 hk1) (v := some (.int (nar .char (121 : Int32)))) (fun h => by rw [Bd.returns] at h; cases h)
    refine ⟨_, _, pre0 _ ?_, hrun, hended, _, _, rfl, ?_, own_chr (T := T5) hh eh5 (Re2.trans (CHv.at X5 hZ1 (own_EW hw) hCe2)), en1, en2, en3, en4.mono (by decide) (by decide)⟩
    · show SS p e below s₁ (mkF m 0 #[vi p0, vi (2 : Int32), uu] []) _
      refine XS.iloadN X0.here hx rfl (hb hby d3_0) rfl ?_
      show SS p e below s₁ (mkF m 1 #[vi p0, vi (2 : Int32), uu] [(.int p0)]) _
      refine XS.ifNo X0.here hx rfl (hb hby d3_1) rfl ((if0 _ _).trans (teq (hq_0 : p0 = (0 : Int32))).2) ?_
      show SS p e below s₁ (mkF m 4 #[vi p0, vi (2 : Int32), uu] []) _
      refine st1 _ ?_
      show SS p e below T1 (mkF m 6 #[vi p0, vi (2 : Int32), uu] [(.ref b1)]) _
      refine XS.astoreN X1.here hx rfl (hb hby d3_6) rfl rfl (l' := #[vi p0, vi (2 : Int32), vr b1]) rfl ?_
      show SS p e below T1 (mkF m 7 #[vi p0, vi (2 : Int32), vr b1] []) _
      refine XS.iloadN X1.here hx rfl (hb hby d3_7) rfl ?_
      show SS p e below T1 (mkF m 8 #[vi p0, vi (2 : Int32), vr b1] [(.int (2 : Int32))]) _
      refine XS.aloadN X1.here hx rfl (hb hby d3_8) rfl rfl ?_
      show SS p e below T1 (mkF m 9 #[vi p0, vi (2 : Int32), vr b1] [(.ref b1), (.int (2 : Int32))]) _
      refine st3.trans ?_
      show SS p e below T3 (mkF m 12 #[vi p0, vi (2 : Int32), vr b1] [(.int (5 : Int32)), (.int (2 : Int32))]) _
      refine XS.icmpNo X3.here hx rfl (hb hby d3_12) rfl (tlt (by decide : (2 : Int32) < (5 : Int32))).2.1 ?_
      show SS p e below T3 (mkF m 15 #[vi p0, vi (2 : Int32), vr b1] []) _
      refine XS.aloadN X3.here hx rfl (hb hby d3_15) rfl rfl ?_
      show SS p e below T3 (mkF m 16 #[vi p0, vi (2 : Int32), vr b1] [(.ref b1)]) _
      refine XS.iloadN X3.here hx rfl (hb hby d3_16) rfl ?_
      show SS p e below T3 (mkF m 17 #[vi p0, vi (2 : Int32), vr b1] [(.int (2 : Int32)), (.ref b1)]) _
      refine st5.trans ?_
      show SS p e below T5 (mkF m 20 #[vi p0, vi (2 : Int32), vr b1] [(.int (121 : Int32))]) _
      refine XS.goto X5.here hx rfl (pc0 := 20) (pc' := 24) rfl (hb hby d3_20) (by decide) (by decide) ?_
      show SS p e below T5 (mkF m 24 #[vi p0, vi (2 : Int32), vr b1] [(.int (121 : Int32))]) _
      exact retN X5 hx (t := .char) Bd.returns (by simp) (hb hby d3_24) hr
    · show Q_rmT2 Z p0 zc fm h0 n0 _ T5.heap _
      rw [eh5]
      exact ⟨(nar .char (121 : Int32)), rfl, N5, K1, (by decide)⟩
  · have sg6 : ∀ target, SS p e below s₁ (mkF m 27 #[vi p0, vi (2 : Int32), uu] [(.int (1 : Int32)), (.int p0)]) target → SS p e below s₁ (mkF m 0 #[vi p0, vi (2 : Int32), uu] []) target := by
      intro target kt
      show SS p e below s₁ (mkF m 0 #[vi p0, vi (2 : Int32), uu] []) _
      refine XS.iloadN X0.here hx rfl (hb hby d3_0) rfl ?_
      show SS p e below s₁ (mkF m 1 #[vi p0, vi (2 : Int32), uu] [(.int p0)]) _
      refine XS.ifYes X0.here hx rfl (pc0 := 1) (pc' := 25) rfl (hb hby d3_1) rfl ((if0 _ _).trans (feq (hq_0 : ¬ (p0 = (0 : Int32)))).2) (by decide) (by decide) ?_
      show SS p e below s₁ (mkF m 25 #[vi p0, vi (2 : Int32), uu] []) _
      refine XS.iloadN X0.here hx rfl (hb hby d3_25) rfl ?_
      show SS p e below s₁ (mkF m 26 #[vi p0, vi (2 : Int32), uu] [(.int p0)]) _
      refine XS.iconst X0.here hx rfl (hb hby d3_26) ?_
      exact kt
    by_cases hq_1 : p0 = (1 : Int32)
    · obtain ⟨b7, T7, h7, kk7, t7, kc7, X7, e7, E7, hS7, hk7, hZ7, hown7, fE7, fC7, fV7, fK7, lta7, ltb7, CH7, -, SF7, st7⟩ := ldcCH X0 hx hZ hown (wd hw 96 rfl) (fun d hd => hw d (own_strAtoms d hd)) e0 hS0 hk0 (own_EW hw) (by decide) hC0 (vs := [(.int (64 : Int32)), (.int (105 : Int32)), (.int (100 : Int32))]) (z := (3 : Int32)) ⟨by decide, by decide⟩ (by decide) (by decide) (g := (mkF m 30 #[vi p0, vi (2 : Int32), uu] [])) rfl (hb hby d3_30) (n := 12) (by decide) (by decide) (by decide) (by decide)
      have Re8 := R0.trans CH7
      have hCe8 := Re8.1
      have K7 : Keep h0 h7 [] := (Keep.refl h0 []).ext E7
      have Z7 : n0 ≤ h7.size := Nat.le_trans Z0 E7.1
      have c10 := (uO.ext E7)
      obtain ⟨cq9, kq9, q9a, q9b, q9c⟩ := isOf hZ7 e7 fE7
      obtain ⟨_, _, ⟨T9, Lw9, kw9, nw9⟩, -, X9, ⟨Lc9, hQ9, lq9, yq9, zq9⟩, st9⟩ := X7.virtualBack hx (y := (⟨"java/lang/String", "length", "()I"⟩ : MethodName)) (z := (⟨"java/lang/String", "length", "()I"⟩ : MethodName)) hown7 (mvT hZ7 (wd hw 19 rfl)) (mvT hZ7 (wd hw 20 rfl)) (notFace_of_selects (args := #[]) (mvT hZ7 (wd hw 22 rfl))) (mvT hZ7 (wd hw 22 rfl)) (mvT hZ7 (wd hw 21 rfl)) (by decide) (StrChars.Road.lenW (W := 1) hZ7 (fun d hd => hw d (own_w_wordsLen d hd)) (kI := 4) (wd hw 13 rfl) fE7 fV7 fC7 fK7 (StrChars.Road.codOf (cs := ([64, 105, 100] : List Int32)) (n := 3) rfl (fun c hc => (own_hp1 c hc).2)) (own_up own_hp1) (uS.ext c10.2) uP (Nat.le_of_ble_eq_true rfl) (by decide) (by decide)) q9a q9c (g := (mkF m 35 #[vi p0, vi (2 : Int32), vr b7] [(.ref b7), (.int (2 : Int32))])) rfl (by rw [hml]; rfl) (Steps.refl _) (argsL := []) (rest := [(.int (2 : Int32))]) (lenOf pd_0 rfl) rfl (by show 2 * 0 + _ ≤ _; exact Nat.le_of_eq rfl) (hb hby d3_35) (fun _ _ => ⟨rfl, e7, (by decide : 2 + 0 ≤ _), (by decide : 16 + 0 ≤ _)⟩)
      dsimp only [Pt.U, Pt.locs, Pt.cells, Pt.slots] at X9 lq9 yq9 zq9 st9 hQ9
      have X9 := own_reb X9 lq9 yq9 zq9
      obtain ⟨rfl, rfl, eh9⟩ := hQ9
      have N9 := Fr.app N0 (Fr.nil n0)
      obtain ⟨cq11, kq11, q11a, q11b, q11c⟩ := isOf hZ7 eh9 fE7
      obtain ⟨_, _, ⟨T11, Lw11, kw11, nw11⟩, -, X11, ⟨Lc11, hQ11, lq11, yq11, zq11⟩, st11⟩ := X9.virtualBack hx (y := (⟨"java/lang/String", "charAt", "(I)C"⟩ : MethodName)) (z := (⟨"java/lang/String", "charAt", "(I)C"⟩ : MethodName)) hown7 (mvT hZ7 (wd hw 32 rfl)) (mvT hZ7 (wd hw 33 rfl)) (notFace_of_selects (args := #[]) (mvT hZ7 (wd hw 35 rfl))) (mvT hZ7 (wd hw 35 rfl)) (mvT hZ7 (wd hw 34 rfl)) (by decide) (StrChars.Road.chN (W := 0) hZ7 (fun d hd => hw d (own_w_wordsChN d hd)) (kI := 4) (wd hw 13 rfl) fE7 fV7 fC7 fK7 (StrChars.Road.codOf (cs := ([64, 105, 100] : List Int32)) (n := 3) rfl (fun c hc => (own_hp1 c hc).2)) (own_up own_hp1) (uS.ext c10.2) uP (uF.ext c10.2) uR (Nat.le_of_ble_eq_true rfl) (i := 2) (Nat.le_of_ble_eq_true rfl) (j := (2 : Int32)) rfl (by decide) (by decide)) q11a q11c (g := (mkF m 43 #[vi p0, vi (2 : Int32), vr b7] [(.int (2 : Int32)), (.ref b7)])) rfl (by rw [hml]; rfl) (Steps.refl _) (argsL := [(.int (2 : Int32))]) (rest := []) (lenOf pd_1 rfl) rfl (by show 2 * 0 + _ ≤ _; exact Nat.le_of_eq rfl) (hb hby d3_43) (fun _ _ => ⟨rfl, eh9, (by decide : 2 + 0 ≤ _), (by decide : 16 + 0 ≤ _)⟩)
      dsimp only [Pt.U, Pt.locs, Pt.cells, Pt.slots] at X11 lq11 yq11 zq11 st11 hQ11
      have X11 := own_reb X11 lq11 yq11 zq11
      obtain ⟨rfl, rfl, eh11⟩ := hQ11
      have N11 := Fr.app N9 (Fr.nil n0)
      obtain ⟨fs, hr, hrun, hended, en1, en2, en3, en4⟩ := X11.leaveW hS7 (own_hk eh11 hk7) (v := some (.int (nar .char (100 : Int32)))) (fun h => by rw [Bd.returns] at h; cases h)
      refine ⟨_, _, pre0 _ ?_, hrun, hended, _, _, rfl, ?_, own_chr (T := T11) hh eh11 (Re8.trans (CHv.at X11 hZ7 (own_EW hw) hCe8)), en1, en2, en3, en4.mono (by decide) (by decide)⟩
      · refine sg6 _ ?_
        show SS p e below s₁ (mkF m 27 #[vi p0, vi (2 : Int32), uu] [(.int (1 : Int32)), (.int p0)]) _
        refine XS.icmpNo X0.here hx rfl (hb hby d3_27) rfl (teq (hq_1 : p0 = (1 : Int32))).2 ?_
        show SS p e below s₁ (mkF m 30 #[vi p0, vi (2 : Int32), uu] []) _
        refine st7 _ ?_
        show SS p e below T7 (mkF m 32 #[vi p0, vi (2 : Int32), uu] [(.ref b7)]) _
        refine XS.astoreN X7.here hx rfl (hb hby d3_32) rfl rfl (l' := #[vi p0, vi (2 : Int32), vr b7]) rfl ?_
        show SS p e below T7 (mkF m 33 #[vi p0, vi (2 : Int32), vr b7] []) _
        refine XS.iloadN X7.here hx rfl (hb hby d3_33) rfl ?_
        show SS p e below T7 (mkF m 34 #[vi p0, vi (2 : Int32), vr b7] [(.int (2 : Int32))]) _
        refine XS.aloadN X7.here hx rfl (hb hby d3_34) rfl rfl ?_
        show SS p e below T7 (mkF m 35 #[vi p0, vi (2 : Int32), vr b7] [(.ref b7), (.int (2 : Int32))]) _
        refine st9.trans ?_
        show SS p e below T9 (mkF m 38 #[vi p0, vi (2 : Int32), vr b7] [(.int (3 : Int32)), (.int (2 : Int32))]) _
        refine XS.icmpNo X9.here hx rfl (hb hby d3_38) rfl (tlt (by decide : (2 : Int32) < (3 : Int32))).2.1 ?_
        show SS p e below T9 (mkF m 41 #[vi p0, vi (2 : Int32), vr b7] []) _
        refine XS.aloadN X9.here hx rfl (hb hby d3_41) rfl rfl ?_
        show SS p e below T9 (mkF m 42 #[vi p0, vi (2 : Int32), vr b7] [(.ref b7)]) _
        refine XS.iloadN X9.here hx rfl (hb hby d3_42) rfl ?_
        show SS p e below T9 (mkF m 43 #[vi p0, vi (2 : Int32), vr b7] [(.int (2 : Int32)), (.ref b7)]) _
        refine st11.trans ?_
        show SS p e below T11 (mkF m 46 #[vi p0, vi (2 : Int32), vr b7] [(.int (100 : Int32))]) _
        refine XS.goto X11.here hx rfl (pc0 := 46) (pc' := 50) rfl (hb hby d3_46) (by decide) (by decide) ?_
        show SS p e below T11 (mkF m 50 #[vi p0, vi (2 : Int32), vr b7] [(.int (100 : Int32))]) _
        exact retN X11 hx (t := .char) Bd.returns (by simp) (hb hby d3_50) hr
      · show Q_rmT2 Z p0 zc fm h0 n0 _ T11.heap _
        rw [eh11]
        exact ⟨(nar .char (100 : Int32)), rfl, N11, K7, (by decide)⟩
    · have sg12 : ∀ target, SS p e below s₁ (mkF m 53 #[vi p0, vi (2 : Int32), uu] [(.int (2 : Int32)), (.int p0)]) target → SS p e below s₁ (mkF m 27 #[vi p0, vi (2 : Int32), uu] [(.int (1 : Int32)), (.int p0)]) target := by
        intro target kt
        show SS p e below s₁ (mkF m 27 #[vi p0, vi (2 : Int32), uu] [(.int (1 : Int32)), (.int p0)]) _
        refine XS.icmpYes X0.here hx rfl (pc0 := 27) (pc' := 51) rfl (hb hby d3_27) rfl (feq (hq_1 : ¬ (p0 = (1 : Int32)))).2 (by decide) (by decide) ?_
        show SS p e below s₁ (mkF m 51 #[vi p0, vi (2 : Int32), uu] []) _
        refine XS.iloadN X0.here hx rfl (hb hby d3_51) rfl ?_
        show SS p e below s₁ (mkF m 52 #[vi p0, vi (2 : Int32), uu] [(.int p0)]) _
        refine XS.iconst X0.here hx rfl (hb hby d3_52) ?_
        exact kt
      by_cases hq_2 : p0 = (2 : Int32)
      · obtain ⟨b13, T13, h13, kk13, t13, kc13, X13, e13, E13, hS13, hk13, hZ13, hown13, fE13, fC13, fV13, fK13, lta13, ltb13, CH13, -, SF13, st13⟩ := ldcCH X0 hx hZ hown (wd hw 97 rfl) (fun d hd => hw d (own_strAtoms d hd)) e0 hS0 hk0 (own_EW hw) (by decide) hC0 (vs := [(.int (64 : Int32)), (.int (114 : Int32)), (.int (101 : Int32)), (.int (102 : Int32))]) (z := (4 : Int32)) ⟨by decide, by decide⟩ (by decide) (by decide) (g := (mkF m 56 #[vi p0, vi (2 : Int32), uu] [])) rfl (hb hby d3_56) (n := 16) (by decide) (by decide) (by decide) (by decide)
        have Re14 := R0.trans CH13
        have hCe14 := Re14.1
        have K13 : Keep h0 h13 [] := (Keep.refl h0 []).ext E13
        have Z13 : n0 ≤ h13.size := Nat.le_trans Z0 E13.1
        have c16 := (uO.ext E13)
        obtain ⟨cq15, kq15, q15a, q15b, q15c⟩ := isOf hZ13 e13 fE13
        obtain ⟨_, _, ⟨T15, Lw15, kw15, nw15⟩, -, X15, ⟨Lc15, hQ15, lq15, yq15, zq15⟩, st15⟩ := X13.virtualBack hx (y := (⟨"java/lang/String", "length", "()I"⟩ : MethodName)) (z := (⟨"java/lang/String", "length", "()I"⟩ : MethodName)) hown13 (mvT hZ13 (wd hw 19 rfl)) (mvT hZ13 (wd hw 20 rfl)) (notFace_of_selects (args := #[]) (mvT hZ13 (wd hw 22 rfl))) (mvT hZ13 (wd hw 22 rfl)) (mvT hZ13 (wd hw 21 rfl)) (by decide) (StrChars.Road.lenW (W := 1) hZ13 (fun d hd => hw d (own_w_wordsLen d hd)) (kI := 4) (wd hw 13 rfl) fE13 fV13 fC13 fK13 (StrChars.Road.codOf (cs := ([64, 114, 101, 102] : List Int32)) (n := 4) rfl (fun c hc => (own_hp2 c hc).2)) (own_up own_hp2) (uS.ext c16.2) uP (Nat.le_of_ble_eq_true rfl) (by decide) (by decide)) q15a q15c (g := (mkF m 61 #[vi p0, vi (2 : Int32), vr b13] [(.ref b13), (.int (2 : Int32))])) rfl (by rw [hml]; rfl) (Steps.refl _) (argsL := []) (rest := [(.int (2 : Int32))]) (lenOf pd_0 rfl) rfl (by show 2 * 0 + _ ≤ _; exact Nat.le_of_eq rfl) (hb hby d3_61) (fun _ _ => ⟨rfl, e13, (by decide : 2 + 0 ≤ _), (by decide : 20 + 0 ≤ _)⟩)
        dsimp only [Pt.U, Pt.locs, Pt.cells, Pt.slots] at X15 lq15 yq15 zq15 st15 hQ15
        have X15 := own_reb X15 lq15 yq15 zq15
        obtain ⟨rfl, rfl, eh15⟩ := hQ15
        have N15 := Fr.app N0 (Fr.nil n0)
        obtain ⟨cq17, kq17, q17a, q17b, q17c⟩ := isOf hZ13 eh15 fE13
        obtain ⟨_, _, ⟨T17, Lw17, kw17, nw17⟩, -, X17, ⟨Lc17, hQ17, lq17, yq17, zq17⟩, st17⟩ := X15.virtualBack hx (y := (⟨"java/lang/String", "charAt", "(I)C"⟩ : MethodName)) (z := (⟨"java/lang/String", "charAt", "(I)C"⟩ : MethodName)) hown13 (mvT hZ13 (wd hw 32 rfl)) (mvT hZ13 (wd hw 33 rfl)) (notFace_of_selects (args := #[]) (mvT hZ13 (wd hw 35 rfl))) (mvT hZ13 (wd hw 35 rfl)) (mvT hZ13 (wd hw 34 rfl)) (by decide) (StrChars.Road.chN (W := 0) hZ13 (fun d hd => hw d (own_w_wordsChN d hd)) (kI := 4) (wd hw 13 rfl) fE13 fV13 fC13 fK13 (StrChars.Road.codOf (cs := ([64, 114, 101, 102] : List Int32)) (n := 4) rfl (fun c hc => (own_hp2 c hc).2)) (own_up own_hp2) (uS.ext c16.2) uP (uF.ext c16.2) uR (Nat.le_of_ble_eq_true rfl) (i := 2) (Nat.le_of_ble_eq_true rfl) (j := (2 : Int32)) rfl (by decide) (by decide)) q17a q17c (g := (mkF m 69 #[vi p0, vi (2 : Int32), vr b13] [(.int (2 : Int32)), (.ref b13)])) rfl (by rw [hml]; rfl) (Steps.refl _) (argsL := [(.int (2 : Int32))]) (rest := []) (lenOf pd_1 rfl) rfl (by show 2 * 0 + _ ≤ _; exact Nat.le_of_eq rfl) (hb hby d3_69) (fun _ _ => ⟨rfl, eh15, (by decide : 2 + 0 ≤ _), (by decide : 20 + 0 ≤ _)⟩)
        dsimp only [Pt.U, Pt.locs, Pt.cells, Pt.slots] at X17 lq17 yq17 zq17 st17 hQ17
        have X17 := own_reb X17 lq17 yq17 zq17
        obtain ⟨rfl, rfl, eh17⟩ := hQ17
        have N17 := Fr.app N15 (Fr.nil n0)
        obtain ⟨fs, hr, hrun, hended, en1, en2, en3, en4⟩ := X17.leaveW hS13 (own_hk eh17 hk13) (v := some (.int (nar .char (101 : Int32)))) (fun h => by rw [Bd.returns] at h; cases h)
        refine ⟨_, _, pre0 _ ?_, hrun, hended, _, _, rfl, ?_, own_chr (T := T17) hh eh17 (Re14.trans (CHv.at X17 hZ13 (own_EW hw) hCe14)), en1, en2, en3, en4.mono (by decide) (by decide)⟩
        · refine sg6 _ ?_
          refine sg12 _ ?_
          show SS p e below s₁ (mkF m 53 #[vi p0, vi (2 : Int32), uu] [(.int (2 : Int32)), (.int p0)]) _
          refine XS.icmpNo X0.here hx rfl (hb hby d3_53) rfl (teq (hq_2 : p0 = (2 : Int32))).2 ?_
          show SS p e below s₁ (mkF m 56 #[vi p0, vi (2 : Int32), uu] []) _
          refine st13 _ ?_
          show SS p e below T13 (mkF m 58 #[vi p0, vi (2 : Int32), uu] [(.ref b13)]) _
          refine XS.astoreN X13.here hx rfl (hb hby d3_58) rfl rfl (l' := #[vi p0, vi (2 : Int32), vr b13]) rfl ?_
          show SS p e below T13 (mkF m 59 #[vi p0, vi (2 : Int32), vr b13] []) _
          refine XS.iloadN X13.here hx rfl (hb hby d3_59) rfl ?_
          show SS p e below T13 (mkF m 60 #[vi p0, vi (2 : Int32), vr b13] [(.int (2 : Int32))]) _
          refine XS.aloadN X13.here hx rfl (hb hby d3_60) rfl rfl ?_
          show SS p e below T13 (mkF m 61 #[vi p0, vi (2 : Int32), vr b13] [(.ref b13), (.int (2 : Int32))]) _
          refine st15.trans ?_
          show SS p e below T15 (mkF m 64 #[vi p0, vi (2 : Int32), vr b13] [(.int (4 : Int32)), (.int (2 : Int32))]) _
          refine XS.icmpNo X15.here hx rfl (hb hby d3_64) rfl (tlt (by decide : (2 : Int32) < (4 : Int32))).2.1 ?_
          show SS p e below T15 (mkF m 67 #[vi p0, vi (2 : Int32), vr b13] []) _
          refine XS.aloadN X15.here hx rfl (hb hby d3_67) rfl rfl ?_
          show SS p e below T15 (mkF m 68 #[vi p0, vi (2 : Int32), vr b13] [(.ref b13)]) _
          refine XS.iloadN X15.here hx rfl (hb hby d3_68) rfl ?_
          show SS p e below T15 (mkF m 69 #[vi p0, vi (2 : Int32), vr b13] [(.int (2 : Int32)), (.ref b13)]) _
          refine st17.trans ?_
          show SS p e below T17 (mkF m 72 #[vi p0, vi (2 : Int32), vr b13] [(.int (101 : Int32))]) _
          refine XS.goto X17.here hx rfl (pc0 := 72) (pc' := 76) rfl (hb hby d3_72) (by decide) (by decide) ?_
          show SS p e below T17 (mkF m 76 #[vi p0, vi (2 : Int32), vr b13] [(.int (101 : Int32))]) _
          exact retN X17 hx (t := .char) Bd.returns (by simp) (hb hby d3_76) hr
        · show Q_rmT2 Z p0 zc fm h0 n0 _ T17.heap _
          rw [eh17]
          exact ⟨(nar .char (101 : Int32)), rfl, N17, K13, (by decide)⟩
      · obtain ⟨fs, hr, hrun, hended, en1, en2, en3, en4⟩ := X0.leaveW hS0 (own_hk e0 hk0) (v := some (.int (nar .char (0 : Int32)))) (fun h => by rw [Bd.returns] at h; cases h)
        refine ⟨_, _, pre0 _ ?_, hrun, hended, _, _, rfl, ?_, own_chr (T := s₁) hh e0 (R0.trans (CHv.at X0 hZ (own_EW hw) hC0)), en1, en2, en3, en4.mono (by decide) (by decide)⟩
        · refine sg6 _ ?_
          refine sg12 _ ?_
          show SS p e below s₁ (mkF m 53 #[vi p0, vi (2 : Int32), uu] [(.int (2 : Int32)), (.int p0)]) _
          refine XS.icmpYes X0.here hx rfl (pc0 := 53) (pc' := 77) rfl (hb hby d3_53) rfl (feq (hq_2 : ¬ (p0 = (2 : Int32)))).2 (by decide) (by decide) ?_
          show SS p e below s₁ (mkF m 77 #[vi p0, vi (2 : Int32), uu] []) _
          refine XS.iconst X0.here hx rfl (hb hby d3_77) ?_
          show SS p e below s₁ (mkF m 78 #[vi p0, vi (2 : Int32), uu] [(.int (0 : Int32))]) _
          exact retN X0 hx (t := .char) Bd.returns (by simp) (hb hby d3_78) hr
        · show Q_rmT2 Z p0 zc fm h0 n0 _ s₁.heap _
          rw [e0]
          exact ⟨(nar .char (0 : Int32)), rfl, N0, (Keep.refl h0 []), (by decide)⟩
theorem ef_6 (m : MethodId) (x0 : Int32) (x2 : Int32) (x3 : Int64) : entryFrame m #[(.int x0), (.int (2 : Int32)), (.int x2), (.long x3)] 7 = mkF m 0 #[vi x0, vi (2 : Int32), vi x2, vl x3, us, uu, uu] [] := by first | (simp [entryFrame, mkF, argsToLocals, Value.category]; done) | rfl
def Q_rmP2 (Z : State) (p0 : Int32) (p2 : Int32) (q3 : Int64) (zc : Int32) (fm : Value) (h0 : Heap) (n0 : Nat) (v : Option Value) (h : Heap) (L : List Loc) : Prop := ∃ (cv : Int32), (v = some (.int cv) ∧ Fr n0 L ∧ Keep h0 h [] ∧ ¬ cv < 0 ∧ ¬ (255 : Int32) < cv)
set_option maxRecDepth 65536 in
set_option maxHeartbeats 40000000 in
theorem rmP2 (l : Launch) (Z : State) (a0 : Array Value) (hw : ∀ d ∈ tables_1, d.before a0 Z = true) (ws : List Jvm.Cond) (p0 : Int32) (p2 : Int32) (q3 : Int64) (zc : Int32) (fm : Value) (h0 : Heap) (n0 : Nat) (Z0 : n0 ≤ h0.size) (uO : Old Z n0 h0) (uS : Sta Z Z.heap "java/lang/String" "COMPACT_STRINGS" "Z" (.int zc)) (uF : Sta Z Z.heap "jdk/internal/util/Preconditions" "SIOOBE_FORMATTER" "Ljava/util/function/BiFunction;" fm) (uP : ¬ zc = 0) (uR : fm.isRef = true) :
    MetFree l (⟨"com/example/wireform/wireform/json/JsonIsReservedPinLaw", "pick", "(IIIJ)C"⟩ : MethodName) (head1 (Jvm.Cond.code (⟨"com/example/wireform/wireform/json/JsonIsReservedPinLaw", "pick", "(IIIJ)C"⟩ : MethodName) method_5_code 7 (some .char) :: ws) ({ frames := 5, cells := 2, slots := 24, locals := 67 } : Room)) (fun a U => a = #[(.int p0), (.int (2 : Int32)), (.int p2), (.long q3)] ∧ Z.Warmed39 U.vm ∧ U.heap = h0 ∧ CHv Z own_EL U.vm h0) (fun _ _ _ _ _ => True) (fun _ U o U' => ∃ v L, o = .returned v ∧ Q_rmP2 Z p0 p2 q3 zc fm h0 n0 v U'.heap L ∧ CHr Z own_EL U.vm U.heap U'.vm U'.heap ∧ ReturnedEndW U o U' L ({ frames := 5, cells := 2, slots := 24, locals := 67 } : Room).cells ({ frames := 5, cells := 2, slots := 24, locals := 67 } : Room).slots) := by
  refine MetFree.of_bodySF (plainFor_of_name pn_0) hisR ?_
  intro p e s m args below meth c s₁ Bd hml0 hP hK
  obtain ⟨rfl, hZ, hh, hC0⟩ := hP
  have hx := Bd.exec
  have hby := Bd.bytes
  have hml : c.maxLocals = 7 := hml0
  have hown : s.vm.findClass "com/example/wireform/wireform/json/JsonIsReservedPinLaw" = some m.cls := findClass_of_methodNamed Bd.named
  have hnm := (name_of_methodNamed Bd.named Bd.method).1
  have X0 : Stand p l e ({ frames := 5, cells := 2, slots := 24, locals := 67 } : Room) (s.setVm s.vm) m #[(.int p0), (.int (2 : Int32)), (.int p2), (.long q3)] below meth c s₁ [] 0 0 := Stand.of_body Bd
  have e0 : s₁.heap = h0 := by rw [← hh, Bd.state]; rfl
  have N0 := Fr.nil n0
  have pre0 : ∀ t, Steps p.tables e below (s₁.setTop (mkF m 0 #[vi p0, vi (2 : Int32), vi p2, vl q3, us, uu, uu] [])) t → Steps p.tables e below (s₁.setTop (entryFrame m #[(.int p0), (.int (2 : Int32)), (.int p2), (.long q3)] 7)) t := fun t k => castTop (ef_6 m p0 p2 q3) k
  have hS0 : s.Since s.vm 0 := (State.WarmedH.refl s).since _
  have hk0 : 0 ≤ h0.size := Nat.zero_le _
  have R0 := CHr.refl hC0
  obtain ⟨_, _, ⟨T1, Lw1, kw1, nw1⟩, -, X1, ⟨Lc1, hQ1, lq1, yq1, zq1⟩, st1⟩ := Jvm.LawKit.callS X0 hx (y := (⟨"com/example/wireform/wireform/json/JsonIsReservedPinLaw", "drawn", "(IJ)C"⟩ : MethodName)) hown (mvT hZ (wd hw 4 rfl)) (mvT hZ (wd hw 5 rfl)) (mvT hZ (wd hw 2 rfl)) (mvT hZ (wd hw 6 rfl)) (by decide) (backOf (W := 0) (rmD l Z a0 hw [] (2 : Int32) q3 h0 n0 Z0) hZ (wd hw 6 rfl) (wd hw 2 rfl) (by decide) (by decide)) (g := (mkF m 2 #[vi p0, vi (2 : Int32), vi p2, vl q3, us, uu, uu] [(.long q3), (.int (2 : Int32))])) rfl (by rw [hml]; rfl) (argsL := [(.int (2 : Int32)), (.long q3)]) (rest := []) (lenOf pd_2 rfl) rfl (by show 2 * 0 + _ ≤ _; exact Nat.le_of_eq rfl) (hb hby d1_2) (fun _ _ => ⟨rfl, e0, (by decide : 0 + 0 ≤ _), (by decide : 0 + 0 ≤ _)⟩)
  dsimp only [Pt.U, Pt.locs, Pt.cells, Pt.slots] at X1 lq1 yq1 zq1 st1 hQ1
  have X1 := own_reb X1 lq1 yq1 zq1
  obtain ⟨rfl, Nq1, eh1⟩ := hQ1
  have N1 := Fr.app N0 Nq1
  have sg2 : ∀ target, SS p e below T1 (mkF m 9 #[vi p0, vi (2 : Int32), vi p2, vl q3, us, vi (own_d (2 : Int32) q3), uu] [(.int p2), (.int (2 : Int32))]) target → SS p e below s₁ (mkF m 0 #[vi p0, vi (2 : Int32), vi p2, vl q3, us, uu, uu] []) target := by
    intro target kt
    show SS p e below s₁ (mkF m 0 #[vi p0, vi (2 : Int32), vi p2, vl q3, us, uu, uu] []) _
    refine XS.iloadN X0.here hx rfl (hb hby d1_0) rfl ?_
    show SS p e below s₁ (mkF m 1 #[vi p0, vi (2 : Int32), vi p2, vl q3, us, uu, uu] [(.int (2 : Int32))]) _
    refine XS.lloadN X0.here hx rfl (hb hby d1_1) rfl ?_
    show SS p e below s₁ (mkF m 2 #[vi p0, vi (2 : Int32), vi p2, vl q3, us, uu, uu] [(.long q3), (.int (2 : Int32))]) _
    refine st1 _ ?_
    show SS p e below T1 (mkF m 5 #[vi p0, vi (2 : Int32), vi p2, vl q3, us, uu, uu] [(.int (own_d (2 : Int32) q3))]) _
    refine XS.istore X1.here hx rfl (hb hby d1_5) rfl (l' := #[vi p0, vi (2 : Int32), vi p2, vl q3, us, vi (own_d (2 : Int32) q3), uu]) rfl ?_
    show SS p e below T1 (mkF m 7 #[vi p0, vi (2 : Int32), vi p2, vl q3, us, vi (own_d (2 : Int32) q3), uu] []) _
    refine XS.iloadN X1.here hx rfl (hb hby d1_7) rfl ?_
    show SS p e below T1 (mkF m 8 #[vi p0, vi (2 : Int32), vi p2, vl q3, us, vi (own_d (2 : Int32) q3), uu] [(.int (2 : Int32))]) _
    refine XS.iloadN X1.here hx rfl (hb hby d1_8) rfl ?_
    exact kt
  by_cases hm : (2 : Int32) = p2
  · obtain ⟨fs, hr, hrun, hended, en1, en2, en3, en4⟩ := X1.leaveW hS0 (own_hk eh1 hk0) (v := some (.int (nar .char (own_d (2 : Int32) q3)))) (fun h => by rw [Bd.returns] at h; cases h)
    refine ⟨_, _, pre0 _ ?_, hrun, hended, _, _, rfl, ?_, own_chr (T := T1) hh eh1 (R0.trans (CHv.at X1 hZ (own_EW hw) hC0)), en1, en2, en3, en4.mono (by decide) (by decide)⟩
    · refine sg2 _ ?_
      show SS p e below T1 (mkF m 9 #[vi p0, vi (2 : Int32), vi p2, vl q3, us, vi (own_d (2 : Int32) q3), uu] [(.int p2), (.int (2 : Int32))]) _
      refine XS.icmpNo X1.here hx rfl (hb hby d1_9) rfl (teq (hm : (2 : Int32) = p2)).2 ?_
      show SS p e below T1 (mkF m 12 #[vi p0, vi (2 : Int32), vi p2, vl q3, us, vi (own_d (2 : Int32) q3), uu] []) _
      refine XS.iload X1.here hx rfl (hb hby d1_12) rfl ?_
      show SS p e below T1 (mkF m 14 #[vi p0, vi (2 : Int32), vi p2, vl q3, us, vi (own_d (2 : Int32) q3), uu] [(.int (own_d (2 : Int32) q3))]) _
      exact retN X1 hx (t := .char) Bd.returns (by simp) (hb hby d1_14) hr
    · show Q_rmP2 Z p0 p2 q3 zc fm h0 n0 _ T1.heap _
      rw [eh1]
      exact ⟨(nar .char (own_d (2 : Int32) q3)), rfl, N1, (Keep.refl h0 []), (own_nb (own_db _ _))⟩
  · obtain ⟨_, _, ⟨T3, Lw3, kw3, nw3⟩, -, X3', hS3', hg3, ⟨Lc3, hQ3, lq3, yq3, zq3, CH3⟩, st3⟩ := callSS X1 hx (y := (⟨"com/example/wireform/wireform/json/JsonIsReservedPinLaw", "templ", "(II)C"⟩ : MethodName)) hown (mvT hZ (wd hw 8 rfl)) (mvT hZ (wd hw 9 rfl)) (mvT hZ (wd hw 2 rfl)) (mvT hZ (wd hw 10 rfl)) (by decide) (backOfSH (W := 0) (rmT2 l Z a0 hw [] p0 zc fm h0 n0 Z0 uO uS uF uP uR) hZ (wd hw 10 rfl) (wd hw 2 rfl) (by decide) (by decide) (own_EW hw) hC0) (g := (mkF m 17 #[vi p0, vi (2 : Int32), vi p2, vl q3, us, vi (own_d (2 : Int32) q3), uu] [(.int (2 : Int32)), (.int p0)])) rfl (by rw [hml]; rfl) (argsL := [(.int p0), (.int (2 : Int32))]) (rest := []) (lenOf pd_3 rfl) rfl (by show 2 * 0 + _ ≤ _; exact Nat.le_of_eq rfl) (hb hby d1_17) (fun _ _ => ⟨rfl, eh1, (by decide : 0 + 2 ≤ _), (by decide : 0 + 24 ≤ _)⟩)
    dsimp only [Pt.U, Pt.locs, Pt.cells, Pt.slots] at X3' hS3' hg3 lq3 yq3 zq3 st3 hQ3 CH3
    have X3' := own_reb X3' lq3 yq3 zq3
    obtain ⟨X3, hS3, hZ3, hown3⟩ := rebS hS0 (own_hk eh1 hk0) X3' hS3' hg3 hZ hown
    obtain ⟨cv_3, rfl, Nq3, Kq3, f3_0⟩ := hQ3
    have N3 := Fr.app N1 Nq3
    have Re4 := R0.trans CH3
    have hCe4 := Re4.1
    have K3 : Keep h0 T3.heap [] := (Keep.refl h0 []).trans Kq3 all0
    have Z3 : n0 ≤ T3.heap.size := Nat.le_trans Z0 Kq3.1
    have hk3 : T3.heap.size ≤ T3.heap.size := Nat.le_refl _
    have sg5 : ∀ target, SS p e below T3 (mkF m 24 #[vi p0, vi (2 : Int32), vi p2, vl q3, us, vi (own_d (2 : Int32) q3), vi cv_3] [(.int cv_3)]) target → SS p e below T1 (mkF m 9 #[vi p0, vi (2 : Int32), vi p2, vl q3, us, vi (own_d (2 : Int32) q3), uu] [(.int p2), (.int (2 : Int32))]) target := by
      intro target kt
      show SS p e below T1 (mkF m 9 #[vi p0, vi (2 : Int32), vi p2, vl q3, us, vi (own_d (2 : Int32) q3), uu] [(.int p2), (.int (2 : Int32))]) _
      refine XS.icmpYes X1.here hx rfl (pc0 := 9) (pc' := 15) rfl (hb hby d1_9) rfl (feq (hm : ¬ ((2 : Int32) = p2))).2 (by decide) (by decide) ?_
      show SS p e below T1 (mkF m 15 #[vi p0, vi (2 : Int32), vi p2, vl q3, us, vi (own_d (2 : Int32) q3), uu] []) _
      refine XS.iloadN X1.here hx rfl (hb hby d1_15) rfl ?_
      show SS p e below T1 (mkF m 16 #[vi p0, vi (2 : Int32), vi p2, vl q3, us, vi (own_d (2 : Int32) q3), uu] [(.int p0)]) _
      refine XS.iloadN X1.here hx rfl (hb hby d1_16) rfl ?_
      show SS p e below T1 (mkF m 17 #[vi p0, vi (2 : Int32), vi p2, vl q3, us, vi (own_d (2 : Int32) q3), uu] [(.int (2 : Int32)), (.int p0)]) _
      refine st3.trans ?_
      show SS p e below T3 (mkF m 20 #[vi p0, vi (2 : Int32), vi p2, vl q3, us, vi (own_d (2 : Int32) q3), uu] [(.int cv_3)]) _
      refine XS.istore X3.here hx rfl (hb hby d1_20) rfl (l' := #[vi p0, vi (2 : Int32), vi p2, vl q3, us, vi (own_d (2 : Int32) q3), vi cv_3]) rfl ?_
      show SS p e below T3 (mkF m 22 #[vi p0, vi (2 : Int32), vi p2, vl q3, us, vi (own_d (2 : Int32) q3), vi cv_3] []) _
      refine XS.iload X3.here hx rfl (hb hby d1_22) rfl ?_
      exact kt
    by_cases ht : cv_3 = (0 : Int32)
    · obtain ⟨fs, hr, hrun, hended, en1, en2, en3, en4⟩ := X3.leaveW hS3 (own_hk rfl hk3) (v := some (.int (nar .char (own_d (2 : Int32) q3)))) (fun h => by rw [Bd.returns] at h; cases h)
      refine ⟨_, _, pre0 _ ?_, hrun, hended, _, _, rfl, ?_, own_chr (T := T3) hh rfl (Re4.trans (CHv.at X3 hZ3 (own_EW hw) hCe4)), en1, en2, en3, en4.mono (by decide) (by decide)⟩
      · refine sg2 _ ?_
        refine sg5 _ ?_
        show SS p e below T3 (mkF m 24 #[vi p0, vi (2 : Int32), vi p2, vl q3, us, vi (own_d (2 : Int32) q3), vi cv_3] [(.int cv_3)]) _
        refine XS.ifNo X3.here hx rfl (hb hby d1_24) rfl ((if0 _ _).trans (teq (ht : cv_3 = (0 : Int32))).2) ?_
        show SS p e below T3 (mkF m 27 #[vi p0, vi (2 : Int32), vi p2, vl q3, us, vi (own_d (2 : Int32) q3), vi cv_3] []) _
        refine XS.iload X3.here hx rfl (hb hby d1_27) rfl ?_
        show SS p e below T3 (mkF m 29 #[vi p0, vi (2 : Int32), vi p2, vl q3, us, vi (own_d (2 : Int32) q3), vi cv_3] [(.int (own_d (2 : Int32) q3))]) _
        refine XS.goto X3.here hx rfl (pc0 := 29) (pc' := 34) rfl (hb hby d1_29) (by decide) (by decide) ?_
        show SS p e below T3 (mkF m 34 #[vi p0, vi (2 : Int32), vi p2, vl q3, us, vi (own_d (2 : Int32) q3), vi cv_3] [(.int (own_d (2 : Int32) q3))]) _
        exact retN X3 hx (t := .char) Bd.returns (by simp) (hb hby d1_34) hr
      · show Q_rmP2 Z p0 p2 q3 zc fm h0 n0 _ T3.heap _
        exact ⟨(nar .char (own_d (2 : Int32) q3)), rfl, N3, K3, (own_nb (own_db _ _))⟩
    · obtain ⟨fs, hr, hrun, hended, en1, en2, en3, en4⟩ := X3.leaveW hS3 (own_hk rfl hk3) (v := some (.int (nar .char cv_3))) (fun h => by rw [Bd.returns] at h; cases h)
      refine ⟨_, _, pre0 _ ?_, hrun, hended, _, _, rfl, ?_, own_chr (T := T3) hh rfl (Re4.trans (CHv.at X3 hZ3 (own_EW hw) hCe4)), en1, en2, en3, en4.mono (by decide) (by decide)⟩
      · refine sg2 _ ?_
        refine sg5 _ ?_
        show SS p e below T3 (mkF m 24 #[vi p0, vi (2 : Int32), vi p2, vl q3, us, vi (own_d (2 : Int32) q3), vi cv_3] [(.int cv_3)]) _
        refine XS.ifYes X3.here hx rfl (pc0 := 24) (pc' := 32) rfl (hb hby d1_24) rfl ((if0 _ _).trans (feq (ht : ¬ (cv_3 = (0 : Int32)))).2) (by decide) (by decide) ?_
        show SS p e below T3 (mkF m 32 #[vi p0, vi (2 : Int32), vi p2, vl q3, us, vi (own_d (2 : Int32) q3), vi cv_3] []) _
        refine XS.iload X3.here hx rfl (hb hby d1_32) rfl ?_
        show SS p e below T3 (mkF m 34 #[vi p0, vi (2 : Int32), vi p2, vl q3, us, vi (own_d (2 : Int32) q3), vi cv_3] [(.int cv_3)]) _
        exact retN X3 hx (t := .char) Bd.returns (by simp) (hb hby d1_34) hr
      · show Q_rmP2 Z p0 p2 q3 zc fm h0 n0 _ T3.heap _
        exact ⟨(nar .char cv_3), rfl, N3, K3, (own_nb f3_0)⟩
theorem ef_7 (m : MethodId) (x0 : Int32) : entryFrame m #[(.int x0), (.int (3 : Int32))] 3 = mkF m 0 #[vi x0, vi (3 : Int32), uu] [] := by first | (simp [entryFrame, mkF, argsToLocals, Value.category]; done) | rfl
theorem d3_49 : decode method_4_code 49 = .ok (.iconst 0, 1) := by decide +kernel
def Q_rmT3 (Z : State) (p0 : Int32) (zc : Int32) (fm : Value) (h0 : Heap) (n0 : Nat) (v : Option Value) (h : Heap) (L : List Loc) : Prop := ∃ (cv : Int32), (v = some (.int cv) ∧ Fr n0 L ∧ Keep h0 h [] ∧ ¬ cv < 0 ∧ ¬ (255 : Int32) < cv)
set_option maxRecDepth 65536 in
set_option maxHeartbeats 40000000 in
theorem rmT3 (l : Launch) (Z : State) (a0 : Array Value) (hw : ∀ d ∈ tables_1, d.before a0 Z = true) (ws : List Jvm.Cond) (p0 : Int32) (zc : Int32) (fm : Value) (h0 : Heap) (n0 : Nat) (Z0 : n0 ≤ h0.size) (uO : Old Z n0 h0) (uS : Sta Z Z.heap "java/lang/String" "COMPACT_STRINGS" "Z" (.int zc)) (uF : Sta Z Z.heap "jdk/internal/util/Preconditions" "SIOOBE_FORMATTER" "Ljava/util/function/BiFunction;" fm) (uP : ¬ zc = 0) (uR : fm.isRef = true) :
    MetFree l (⟨"com/example/wireform/wireform/json/JsonIsReservedPinLaw", "templ", "(II)C"⟩ : MethodName) (head1 (Jvm.Cond.code (⟨"com/example/wireform/wireform/json/JsonIsReservedPinLaw", "templ", "(II)C"⟩ : MethodName) method_4_code 3 (some .char) :: ws) ({ frames := 4, cells := 2, slots := 24, locals := 53 } : Room)) (fun a U => a = #[(.int p0), (.int (3 : Int32))] ∧ Z.Warmed39 U.vm ∧ U.heap = h0 ∧ CHv Z own_EL U.vm h0) (fun _ _ _ _ _ => True) (fun _ U o U' => ∃ v L, o = .returned v ∧ Q_rmT3 Z p0 zc fm h0 n0 v U'.heap L ∧ CHr Z own_EL U.vm U.heap U'.vm U'.heap ∧ ReturnedEndW U o U' L ({ frames := 4, cells := 2, slots := 24, locals := 53 } : Room).cells ({ frames := 4, cells := 2, slots := 24, locals := 53 } : Room).slots) := by
  refine MetFree.of_bodySF (plainFor_of_name pn_0) hisR ?_
  intro p e s m args below meth c s₁ Bd hml0 hP hK
  obtain ⟨rfl, hZ, hh, hC0⟩ := hP
  have hx := Bd.exec
  have hby := Bd.bytes
  have hml : c.maxLocals = 3 := hml0
  have hown : s.vm.findClass "com/example/wireform/wireform/json/JsonIsReservedPinLaw" = some m.cls := findClass_of_methodNamed Bd.named
  have hnm := (name_of_methodNamed Bd.named Bd.method).1
  have X0 : Stand p l e ({ frames := 4, cells := 2, slots := 24, locals := 53 } : Room) (s.setVm s.vm) m #[(.int p0), (.int (3 : Int32))] below meth c s₁ [] 0 0 := Stand.of_body Bd
  have e0 : s₁.heap = h0 := by rw [← hh, Bd.state]; rfl
  have N0 := Fr.nil n0
  have pre0 : ∀ t, Steps p.tables e below (s₁.setTop (mkF m 0 #[vi p0, vi (3 : Int32), uu] [])) t → Steps p.tables e below (s₁.setTop (entryFrame m #[(.int p0), (.int (3 : Int32))] 3)) t := fun t k => castTop (ef_7 m p0) k
  have hS0 : s.Since s.vm 0 := (State.WarmedH.refl s).since _
  have hk0 : 0 ≤ h0.size := Nat.zero_le _
  have R0 := CHr.refl hC0
  by_cases hq_0 : p0 = (0 : Int32)
  · obtain ⟨b1, T1, h1, kk1, t1, kc1, X1, e1, E1, hS1, hk1, hZ1, hown1, fE1, fC1, fV1, fK1, lta1, ltb1, CH1, -, SF1, st1⟩ := ldcCH X0 hx hZ hown (wd hw 11 rfl) (fun d hd => hw d (own_strAtoms d hd)) e0 hS0 hk0 (own_EW hw) (by decide) hC0 (vs := [(.int (64 : Int32)), (.int (116 : Int32)), (.int (121 : Int32)), (.int (112 : Int32)), (.int (101 : Int32))]) (z := (5 : Int32)) ⟨by decide, by decide⟩ (by decide) (by decide) (g := (mkF m 4 #[vi p0, vi (3 : Int32), uu] [])) rfl (hb hby d3_4) (n := 20) (by decide) (by decide) (by decide) (by decide)
    have Re2 := R0.trans CH1
    have hCe2 := Re2.1
    have K1 : Keep h0 h1 [] := (Keep.refl h0 []).ext E1
    have Z1 : n0 ≤ h1.size := Nat.le_trans Z0 E1.1
    have c4 := (uO.ext E1)
    obtain ⟨cq3, kq3, q3a, q3b, q3c⟩ := isOf hZ1 e1 fE1
    obtain ⟨_, _, ⟨T3, Lw3, kw3, nw3⟩, -, X3, ⟨Lc3, hQ3, lq3, yq3, zq3⟩, st3⟩ := X1.virtualBack hx (y := (⟨"java/lang/String", "length", "()I"⟩ : MethodName)) (z := (⟨"java/lang/String", "length", "()I"⟩ : MethodName)) hown1 (mvT hZ1 (wd hw 19 rfl)) (mvT hZ1 (wd hw 20 rfl)) (notFace_of_selects (args := #[]) (mvT hZ1 (wd hw 22 rfl))) (mvT hZ1 (wd hw 22 rfl)) (mvT hZ1 (wd hw 21 rfl)) (by decide) (StrChars.Road.lenW (W := 1) hZ1 (fun d hd => hw d (own_w_wordsLen d hd)) (kI := 4) (wd hw 13 rfl) fE1 fV1 fC1 fK1 (StrChars.Road.codOf (cs := ([64, 116, 121, 112, 101] : List Int32)) (n := 5) rfl (fun c hc => (own_hp0 c hc).2)) (own_up own_hp0) (uS.ext c4.2) uP (Nat.le_of_ble_eq_true rfl) (by decide) (by decide)) q3a q3c (g := (mkF m 9 #[vi p0, vi (3 : Int32), vr b1] [(.ref b1), (.int (3 : Int32))])) rfl (by rw [hml]; rfl) (Steps.refl _) (argsL := []) (rest := [(.int (3 : Int32))]) (lenOf pd_0 rfl) rfl (by show 2 * 0 + _ ≤ _; exact Nat.le_of_eq rfl) (hb hby d3_9) (fun _ _ => ⟨rfl, e1, (by decide : 2 + 0 ≤ _), (by decide : 24 + 0 ≤ _)⟩)
    dsimp only [Pt.U, Pt.locs, Pt.cells, Pt.slots] at X3 lq3 yq3 zq3 st3 hQ3
    have X3 := own_reb X3 lq3 yq3 zq3
    obtain ⟨rfl, rfl, eh3⟩ := hQ3
    have N3 := Fr.app N0 (Fr.nil n0)
    obtain ⟨cq5, kq5, q5a, q5b, q5c⟩ := isOf hZ1 eh3 fE1
    obtain ⟨_, _, ⟨T5, Lw5, kw5, nw5⟩, -, X5, ⟨Lc5, hQ5, lq5, yq5, zq5⟩, st5⟩ := X3.virtualBack hx (y := (⟨"java/lang/String", "charAt", "(I)C"⟩ : MethodName)) (z := (⟨"java/lang/String", "charAt", "(I)C"⟩ : MethodName)) hown1 (mvT hZ1 (wd hw 32 rfl)) (mvT hZ1 (wd hw 33 rfl)) (notFace_of_selects (args := #[]) (mvT hZ1 (wd hw 35 rfl))) (mvT hZ1 (wd hw 35 rfl)) (mvT hZ1 (wd hw 34 rfl)) (by decide) (StrChars.Road.chN (W := 0) hZ1 (fun d hd => hw d (own_w_wordsChN d hd)) (kI := 4) (wd hw 13 rfl) fE1 fV1 fC1 fK1 (StrChars.Road.codOf (cs := ([64, 116, 121, 112, 101] : List Int32)) (n := 5) rfl (fun c hc => (own_hp0 c hc).2)) (own_up own_hp0) (uS.ext c4.2) uP (uF.ext c4.2) uR (Nat.le_of_ble_eq_true rfl) (i := 3) (Nat.le_of_ble_eq_true rfl) (j := (3 : Int32)) rfl (by decide) (by decide)) q5a q5c (g := (mkF m 17 #[vi p0, vi (3 : Int32), vr b1] [(.int (3 : Int32)), (.ref b1)])) rfl (by rw [hml]; rfl) (Steps.refl _) (argsL := [(.int (3 : Int32))]) (rest := []) (lenOf pd_1 rfl) rfl (by show 2 * 0 + _ ≤ _; exact Nat.le_of_eq rfl) (hb hby d3_17) (fun _ _ => ⟨rfl, eh3, (by decide : 2 + 0 ≤ _), (by decide : 24 + 0 ≤ _)⟩)
    dsimp only [Pt.U, Pt.locs, Pt.cells, Pt.slots] at X5 lq5 yq5 zq5 st5 hQ5
    have X5 := own_reb X5 lq5 yq5 zq5
    obtain ⟨rfl, rfl, eh5⟩ := hQ5
    have N5 := Fr.app N3 (Fr.nil n0)
    obtain ⟨fs, hr, hrun, hended, en1, en2, en3, en4⟩ := X5.leaveW hS1 (own_hk eh5 hk1) (v := some (.int (nar .char (112 : Int32)))) (fun h => by rw [Bd.returns] at h; cases h)
    refine ⟨_, _, pre0 _ ?_, hrun, hended, _, _, rfl, ?_, own_chr (T := T5) hh eh5 (Re2.trans (CHv.at X5 hZ1 (own_EW hw) hCe2)), en1, en2, en3, en4.mono (by decide) (by decide)⟩
    · show SS p e below s₁ (mkF m 0 #[vi p0, vi (3 : Int32), uu] []) _
      refine XS.iloadN X0.here hx rfl (hb hby d3_0) rfl ?_
      show SS p e below s₁ (mkF m 1 #[vi p0, vi (3 : Int32), uu] [(.int p0)]) _
      refine XS.ifNo X0.here hx rfl (hb hby d3_1) rfl ((if0 _ _).trans (teq (hq_0 : p0 = (0 : Int32))).2) ?_
      show SS p e below s₁ (mkF m 4 #[vi p0, vi (3 : Int32), uu] []) _
      refine st1 _ ?_
      show SS p e below T1 (mkF m 6 #[vi p0, vi (3 : Int32), uu] [(.ref b1)]) _
      refine XS.astoreN X1.here hx rfl (hb hby d3_6) rfl rfl (l' := #[vi p0, vi (3 : Int32), vr b1]) rfl ?_
      show SS p e below T1 (mkF m 7 #[vi p0, vi (3 : Int32), vr b1] []) _
      refine XS.iloadN X1.here hx rfl (hb hby d3_7) rfl ?_
      show SS p e below T1 (mkF m 8 #[vi p0, vi (3 : Int32), vr b1] [(.int (3 : Int32))]) _
      refine XS.aloadN X1.here hx rfl (hb hby d3_8) rfl rfl ?_
      show SS p e below T1 (mkF m 9 #[vi p0, vi (3 : Int32), vr b1] [(.ref b1), (.int (3 : Int32))]) _
      refine st3.trans ?_
      show SS p e below T3 (mkF m 12 #[vi p0, vi (3 : Int32), vr b1] [(.int (5 : Int32)), (.int (3 : Int32))]) _
      refine XS.icmpNo X3.here hx rfl (hb hby d3_12) rfl (tlt (by decide : (3 : Int32) < (5 : Int32))).2.1 ?_
      show SS p e below T3 (mkF m 15 #[vi p0, vi (3 : Int32), vr b1] []) _
      refine XS.aloadN X3.here hx rfl (hb hby d3_15) rfl rfl ?_
      show SS p e below T3 (mkF m 16 #[vi p0, vi (3 : Int32), vr b1] [(.ref b1)]) _
      refine XS.iloadN X3.here hx rfl (hb hby d3_16) rfl ?_
      show SS p e below T3 (mkF m 17 #[vi p0, vi (3 : Int32), vr b1] [(.int (3 : Int32)), (.ref b1)]) _
      refine st5.trans ?_
      show SS p e below T5 (mkF m 20 #[vi p0, vi (3 : Int32), vr b1] [(.int (112 : Int32))]) _
      refine XS.goto X5.here hx rfl (pc0 := 20) (pc' := 24) rfl (hb hby d3_20) (by decide) (by decide) ?_
      show SS p e below T5 (mkF m 24 #[vi p0, vi (3 : Int32), vr b1] [(.int (112 : Int32))]) _
      exact retN X5 hx (t := .char) Bd.returns (by simp) (hb hby d3_24) hr
    · show Q_rmT3 Z p0 zc fm h0 n0 _ T5.heap _
      rw [eh5]
      exact ⟨(nar .char (112 : Int32)), rfl, N5, K1, (by decide)⟩
  · have sg6 : ∀ target, SS p e below s₁ (mkF m 27 #[vi p0, vi (3 : Int32), uu] [(.int (1 : Int32)), (.int p0)]) target → SS p e below s₁ (mkF m 0 #[vi p0, vi (3 : Int32), uu] []) target := by
      intro target kt
      show SS p e below s₁ (mkF m 0 #[vi p0, vi (3 : Int32), uu] []) _
      refine XS.iloadN X0.here hx rfl (hb hby d3_0) rfl ?_
      show SS p e below s₁ (mkF m 1 #[vi p0, vi (3 : Int32), uu] [(.int p0)]) _
      refine XS.ifYes X0.here hx rfl (pc0 := 1) (pc' := 25) rfl (hb hby d3_1) rfl ((if0 _ _).trans (feq (hq_0 : ¬ (p0 = (0 : Int32)))).2) (by decide) (by decide) ?_
      show SS p e below s₁ (mkF m 25 #[vi p0, vi (3 : Int32), uu] []) _
      refine XS.iloadN X0.here hx rfl (hb hby d3_25) rfl ?_
      show SS p e below s₁ (mkF m 26 #[vi p0, vi (3 : Int32), uu] [(.int p0)]) _
      refine XS.iconst X0.here hx rfl (hb hby d3_26) ?_
      exact kt
    by_cases hq_1 : p0 = (1 : Int32)
    · obtain ⟨b7, T7, h7, kk7, t7, kc7, X7, e7, E7, hS7, hk7, hZ7, hown7, fE7, fC7, fV7, fK7, lta7, ltb7, CH7, -, SF7, st7⟩ := ldcCH X0 hx hZ hown (wd hw 96 rfl) (fun d hd => hw d (own_strAtoms d hd)) e0 hS0 hk0 (own_EW hw) (by decide) hC0 (vs := [(.int (64 : Int32)), (.int (105 : Int32)), (.int (100 : Int32))]) (z := (3 : Int32)) ⟨by decide, by decide⟩ (by decide) (by decide) (g := (mkF m 30 #[vi p0, vi (3 : Int32), uu] [])) rfl (hb hby d3_30) (n := 12) (by decide) (by decide) (by decide) (by decide)
      have Re8 := R0.trans CH7
      have hCe8 := Re8.1
      have K7 : Keep h0 h7 [] := (Keep.refl h0 []).ext E7
      have Z7 : n0 ≤ h7.size := Nat.le_trans Z0 E7.1
      have c10 := (uO.ext E7)
      obtain ⟨cq9, kq9, q9a, q9b, q9c⟩ := isOf hZ7 e7 fE7
      obtain ⟨_, _, ⟨T9, Lw9, kw9, nw9⟩, -, X9, ⟨Lc9, hQ9, lq9, yq9, zq9⟩, st9⟩ := X7.virtualBack hx (y := (⟨"java/lang/String", "length", "()I"⟩ : MethodName)) (z := (⟨"java/lang/String", "length", "()I"⟩ : MethodName)) hown7 (mvT hZ7 (wd hw 19 rfl)) (mvT hZ7 (wd hw 20 rfl)) (notFace_of_selects (args := #[]) (mvT hZ7 (wd hw 22 rfl))) (mvT hZ7 (wd hw 22 rfl)) (mvT hZ7 (wd hw 21 rfl)) (by decide) (StrChars.Road.lenW (W := 1) hZ7 (fun d hd => hw d (own_w_wordsLen d hd)) (kI := 4) (wd hw 13 rfl) fE7 fV7 fC7 fK7 (StrChars.Road.codOf (cs := ([64, 105, 100] : List Int32)) (n := 3) rfl (fun c hc => (own_hp1 c hc).2)) (own_up own_hp1) (uS.ext c10.2) uP (Nat.le_of_ble_eq_true rfl) (by decide) (by decide)) q9a q9c (g := (mkF m 35 #[vi p0, vi (3 : Int32), vr b7] [(.ref b7), (.int (3 : Int32))])) rfl (by rw [hml]; rfl) (Steps.refl _) (argsL := []) (rest := [(.int (3 : Int32))]) (lenOf pd_0 rfl) rfl (by show 2 * 0 + _ ≤ _; exact Nat.le_of_eq rfl) (hb hby d3_35) (fun _ _ => ⟨rfl, e7, (by decide : 2 + 0 ≤ _), (by decide : 16 + 0 ≤ _)⟩)
      dsimp only [Pt.U, Pt.locs, Pt.cells, Pt.slots] at X9 lq9 yq9 zq9 st9 hQ9
      have X9 := own_reb X9 lq9 yq9 zq9
      obtain ⟨rfl, rfl, eh9⟩ := hQ9
      have N9 := Fr.app N0 (Fr.nil n0)
      obtain ⟨fs, hr, hrun, hended, en1, en2, en3, en4⟩ := X9.leaveW hS7 (own_hk eh9 hk7) (v := some (.int (nar .char (0 : Int32)))) (fun h => by rw [Bd.returns] at h; cases h)
      refine ⟨_, _, pre0 _ ?_, hrun, hended, _, _, rfl, ?_, own_chr (T := T9) hh eh9 (Re8.trans (CHv.at X9 hZ7 (own_EW hw) hCe8)), en1, en2, en3, en4.mono (by decide) (by decide)⟩
      · refine sg6 _ ?_
        show SS p e below s₁ (mkF m 27 #[vi p0, vi (3 : Int32), uu] [(.int (1 : Int32)), (.int p0)]) _
        refine XS.icmpNo X0.here hx rfl (hb hby d3_27) rfl (teq (hq_1 : p0 = (1 : Int32))).2 ?_
        show SS p e below s₁ (mkF m 30 #[vi p0, vi (3 : Int32), uu] []) _
        refine st7 _ ?_
        show SS p e below T7 (mkF m 32 #[vi p0, vi (3 : Int32), uu] [(.ref b7)]) _
        refine XS.astoreN X7.here hx rfl (hb hby d3_32) rfl rfl (l' := #[vi p0, vi (3 : Int32), vr b7]) rfl ?_
        show SS p e below T7 (mkF m 33 #[vi p0, vi (3 : Int32), vr b7] []) _
        refine XS.iloadN X7.here hx rfl (hb hby d3_33) rfl ?_
        show SS p e below T7 (mkF m 34 #[vi p0, vi (3 : Int32), vr b7] [(.int (3 : Int32))]) _
        refine XS.aloadN X7.here hx rfl (hb hby d3_34) rfl rfl ?_
        show SS p e below T7 (mkF m 35 #[vi p0, vi (3 : Int32), vr b7] [(.ref b7), (.int (3 : Int32))]) _
        refine st9.trans ?_
        show SS p e below T9 (mkF m 38 #[vi p0, vi (3 : Int32), vr b7] [(.int (3 : Int32)), (.int (3 : Int32))]) _
        refine XS.icmpYes X9.here hx rfl (pc0 := 38) (pc' := 49) rfl (hb hby d3_38) rfl (flt (by decide : ¬ ((3 : Int32) < (3 : Int32)))).2.1 (by decide) (by decide) ?_
        show SS p e below T9 (mkF m 49 #[vi p0, vi (3 : Int32), vr b7] []) _
        refine XS.iconst X9.here hx rfl (hb hby d3_49) ?_
        show SS p e below T9 (mkF m 50 #[vi p0, vi (3 : Int32), vr b7] [(.int (0 : Int32))]) _
        exact retN X9 hx (t := .char) Bd.returns (by simp) (hb hby d3_50) hr
      · show Q_rmT3 Z p0 zc fm h0 n0 _ T9.heap _
        rw [eh9]
        exact ⟨(nar .char (0 : Int32)), rfl, N9, K7, (by decide)⟩
    · have sg11 : ∀ target, SS p e below s₁ (mkF m 53 #[vi p0, vi (3 : Int32), uu] [(.int (2 : Int32)), (.int p0)]) target → SS p e below s₁ (mkF m 27 #[vi p0, vi (3 : Int32), uu] [(.int (1 : Int32)), (.int p0)]) target := by
        intro target kt
        show SS p e below s₁ (mkF m 27 #[vi p0, vi (3 : Int32), uu] [(.int (1 : Int32)), (.int p0)]) _
        refine XS.icmpYes X0.here hx rfl (pc0 := 27) (pc' := 51) rfl (hb hby d3_27) rfl (feq (hq_1 : ¬ (p0 = (1 : Int32)))).2 (by decide) (by decide) ?_
        show SS p e below s₁ (mkF m 51 #[vi p0, vi (3 : Int32), uu] []) _
        refine XS.iloadN X0.here hx rfl (hb hby d3_51) rfl ?_
        show SS p e below s₁ (mkF m 52 #[vi p0, vi (3 : Int32), uu] [(.int p0)]) _
        refine XS.iconst X0.here hx rfl (hb hby d3_52) ?_
        exact kt
      by_cases hq_2 : p0 = (2 : Int32)
      · obtain ⟨b12, T12, h12, kk12, t12, kc12, X12, e12, E12, hS12, hk12, hZ12, hown12, fE12, fC12, fV12, fK12, lta12, ltb12, CH12, -, SF12, st12⟩ := ldcCH X0 hx hZ hown (wd hw 97 rfl) (fun d hd => hw d (own_strAtoms d hd)) e0 hS0 hk0 (own_EW hw) (by decide) hC0 (vs := [(.int (64 : Int32)), (.int (114 : Int32)), (.int (101 : Int32)), (.int (102 : Int32))]) (z := (4 : Int32)) ⟨by decide, by decide⟩ (by decide) (by decide) (g := (mkF m 56 #[vi p0, vi (3 : Int32), uu] [])) rfl (hb hby d3_56) (n := 16) (by decide) (by decide) (by decide) (by decide)
        have Re13 := R0.trans CH12
        have hCe13 := Re13.1
        have K12 : Keep h0 h12 [] := (Keep.refl h0 []).ext E12
        have Z12 : n0 ≤ h12.size := Nat.le_trans Z0 E12.1
        have c15 := (uO.ext E12)
        obtain ⟨cq14, kq14, q14a, q14b, q14c⟩ := isOf hZ12 e12 fE12
        obtain ⟨_, _, ⟨T14, Lw14, kw14, nw14⟩, -, X14, ⟨Lc14, hQ14, lq14, yq14, zq14⟩, st14⟩ := X12.virtualBack hx (y := (⟨"java/lang/String", "length", "()I"⟩ : MethodName)) (z := (⟨"java/lang/String", "length", "()I"⟩ : MethodName)) hown12 (mvT hZ12 (wd hw 19 rfl)) (mvT hZ12 (wd hw 20 rfl)) (notFace_of_selects (args := #[]) (mvT hZ12 (wd hw 22 rfl))) (mvT hZ12 (wd hw 22 rfl)) (mvT hZ12 (wd hw 21 rfl)) (by decide) (StrChars.Road.lenW (W := 1) hZ12 (fun d hd => hw d (own_w_wordsLen d hd)) (kI := 4) (wd hw 13 rfl) fE12 fV12 fC12 fK12 (StrChars.Road.codOf (cs := ([64, 114, 101, 102] : List Int32)) (n := 4) rfl (fun c hc => (own_hp2 c hc).2)) (own_up own_hp2) (uS.ext c15.2) uP (Nat.le_of_ble_eq_true rfl) (by decide) (by decide)) q14a q14c (g := (mkF m 61 #[vi p0, vi (3 : Int32), vr b12] [(.ref b12), (.int (3 : Int32))])) rfl (by rw [hml]; rfl) (Steps.refl _) (argsL := []) (rest := [(.int (3 : Int32))]) (lenOf pd_0 rfl) rfl (by show 2 * 0 + _ ≤ _; exact Nat.le_of_eq rfl) (hb hby d3_61) (fun _ _ => ⟨rfl, e12, (by decide : 2 + 0 ≤ _), (by decide : 20 + 0 ≤ _)⟩)
        dsimp only [Pt.U, Pt.locs, Pt.cells, Pt.slots] at X14 lq14 yq14 zq14 st14 hQ14
        have X14 := own_reb X14 lq14 yq14 zq14
        obtain ⟨rfl, rfl, eh14⟩ := hQ14
        have N14 := Fr.app N0 (Fr.nil n0)
        obtain ⟨cq16, kq16, q16a, q16b, q16c⟩ := isOf hZ12 eh14 fE12
        obtain ⟨_, _, ⟨T16, Lw16, kw16, nw16⟩, -, X16, ⟨Lc16, hQ16, lq16, yq16, zq16⟩, st16⟩ := X14.virtualBack hx (y := (⟨"java/lang/String", "charAt", "(I)C"⟩ : MethodName)) (z := (⟨"java/lang/String", "charAt", "(I)C"⟩ : MethodName)) hown12 (mvT hZ12 (wd hw 32 rfl)) (mvT hZ12 (wd hw 33 rfl)) (notFace_of_selects (args := #[]) (mvT hZ12 (wd hw 35 rfl))) (mvT hZ12 (wd hw 35 rfl)) (mvT hZ12 (wd hw 34 rfl)) (by decide) (StrChars.Road.chN (W := 0) hZ12 (fun d hd => hw d (own_w_wordsChN d hd)) (kI := 4) (wd hw 13 rfl) fE12 fV12 fC12 fK12 (StrChars.Road.codOf (cs := ([64, 114, 101, 102] : List Int32)) (n := 4) rfl (fun c hc => (own_hp2 c hc).2)) (own_up own_hp2) (uS.ext c15.2) uP (uF.ext c15.2) uR (Nat.le_of_ble_eq_true rfl) (i := 3) (Nat.le_of_ble_eq_true rfl) (j := (3 : Int32)) rfl (by decide) (by decide)) q16a q16c (g := (mkF m 69 #[vi p0, vi (3 : Int32), vr b12] [(.int (3 : Int32)), (.ref b12)])) rfl (by rw [hml]; rfl) (Steps.refl _) (argsL := [(.int (3 : Int32))]) (rest := []) (lenOf pd_1 rfl) rfl (by show 2 * 0 + _ ≤ _; exact Nat.le_of_eq rfl) (hb hby d3_69) (fun _ _ => ⟨rfl, eh14, (by decide : 2 + 0 ≤ _), (by decide : 20 + 0 ≤ _)⟩)
        dsimp only [Pt.U, Pt.locs, Pt.cells, Pt.slots] at X16 lq16 yq16 zq16 st16 hQ16
        have X16 := own_reb X16 lq16 yq16 zq16
        obtain ⟨rfl, rfl, eh16⟩ := hQ16
        have N16 := Fr.app N14 (Fr.nil n0)
        obtain ⟨fs, hr, hrun, hended, en1, en2, en3, en4⟩ := X16.leaveW hS12 (own_hk eh16 hk12) (v := some (.int (nar .char (102 : Int32)))) (fun h => by rw [Bd.returns] at h; cases h)
        refine ⟨_, _, pre0 _ ?_, hrun, hended, _, _, rfl, ?_, own_chr (T := T16) hh eh16 (Re13.trans (CHv.at X16 hZ12 (own_EW hw) hCe13)), en1, en2, en3, en4.mono (by decide) (by decide)⟩
        · refine sg6 _ ?_
          refine sg11 _ ?_
          show SS p e below s₁ (mkF m 53 #[vi p0, vi (3 : Int32), uu] [(.int (2 : Int32)), (.int p0)]) _
          refine XS.icmpNo X0.here hx rfl (hb hby d3_53) rfl (teq (hq_2 : p0 = (2 : Int32))).2 ?_
          show SS p e below s₁ (mkF m 56 #[vi p0, vi (3 : Int32), uu] []) _
          refine st12 _ ?_
          show SS p e below T12 (mkF m 58 #[vi p0, vi (3 : Int32), uu] [(.ref b12)]) _
          refine XS.astoreN X12.here hx rfl (hb hby d3_58) rfl rfl (l' := #[vi p0, vi (3 : Int32), vr b12]) rfl ?_
          show SS p e below T12 (mkF m 59 #[vi p0, vi (3 : Int32), vr b12] []) _
          refine XS.iloadN X12.here hx rfl (hb hby d3_59) rfl ?_
          show SS p e below T12 (mkF m 60 #[vi p0, vi (3 : Int32), vr b12] [(.int (3 : Int32))]) _
          refine XS.aloadN X12.here hx rfl (hb hby d3_60) rfl rfl ?_
          show SS p e below T12 (mkF m 61 #[vi p0, vi (3 : Int32), vr b12] [(.ref b12), (.int (3 : Int32))]) _
          refine st14.trans ?_
          show SS p e below T14 (mkF m 64 #[vi p0, vi (3 : Int32), vr b12] [(.int (4 : Int32)), (.int (3 : Int32))]) _
          refine XS.icmpNo X14.here hx rfl (hb hby d3_64) rfl (tlt (by decide : (3 : Int32) < (4 : Int32))).2.1 ?_
          show SS p e below T14 (mkF m 67 #[vi p0, vi (3 : Int32), vr b12] []) _
          refine XS.aloadN X14.here hx rfl (hb hby d3_67) rfl rfl ?_
          show SS p e below T14 (mkF m 68 #[vi p0, vi (3 : Int32), vr b12] [(.ref b12)]) _
          refine XS.iloadN X14.here hx rfl (hb hby d3_68) rfl ?_
          show SS p e below T14 (mkF m 69 #[vi p0, vi (3 : Int32), vr b12] [(.int (3 : Int32)), (.ref b12)]) _
          refine st16.trans ?_
          show SS p e below T16 (mkF m 72 #[vi p0, vi (3 : Int32), vr b12] [(.int (102 : Int32))]) _
          refine XS.goto X16.here hx rfl (pc0 := 72) (pc' := 76) rfl (hb hby d3_72) (by decide) (by decide) ?_
          show SS p e below T16 (mkF m 76 #[vi p0, vi (3 : Int32), vr b12] [(.int (102 : Int32))]) _
          exact retN X16 hx (t := .char) Bd.returns (by simp) (hb hby d3_76) hr
        · show Q_rmT3 Z p0 zc fm h0 n0 _ T16.heap _
          rw [eh16]
          exact ⟨(nar .char (102 : Int32)), rfl, N16, K12, (by decide)⟩
      · obtain ⟨fs, hr, hrun, hended, en1, en2, en3, en4⟩ := X0.leaveW hS0 (own_hk e0 hk0) (v := some (.int (nar .char (0 : Int32)))) (fun h => by rw [Bd.returns] at h; cases h)
        refine ⟨_, _, pre0 _ ?_, hrun, hended, _, _, rfl, ?_, own_chr (T := s₁) hh e0 (R0.trans (CHv.at X0 hZ (own_EW hw) hC0)), en1, en2, en3, en4.mono (by decide) (by decide)⟩
        · refine sg6 _ ?_
          refine sg11 _ ?_
          show SS p e below s₁ (mkF m 53 #[vi p0, vi (3 : Int32), uu] [(.int (2 : Int32)), (.int p0)]) _
          refine XS.icmpYes X0.here hx rfl (pc0 := 53) (pc' := 77) rfl (hb hby d3_53) rfl (feq (hq_2 : ¬ (p0 = (2 : Int32)))).2 (by decide) (by decide) ?_
          show SS p e below s₁ (mkF m 77 #[vi p0, vi (3 : Int32), uu] []) _
          refine XS.iconst X0.here hx rfl (hb hby d3_77) ?_
          show SS p e below s₁ (mkF m 78 #[vi p0, vi (3 : Int32), uu] [(.int (0 : Int32))]) _
          exact retN X0 hx (t := .char) Bd.returns (by simp) (hb hby d3_78) hr
        · show Q_rmT3 Z p0 zc fm h0 n0 _ s₁.heap _
          rw [e0]
          exact ⟨(nar .char (0 : Int32)), rfl, N0, (Keep.refl h0 []), (by decide)⟩
theorem ef_8 (m : MethodId) (x0 : Int32) (x2 : Int32) (x3 : Int64) : entryFrame m #[(.int x0), (.int (3 : Int32)), (.int x2), (.long x3)] 7 = mkF m 0 #[vi x0, vi (3 : Int32), vi x2, vl x3, us, uu, uu] [] := by first | (simp [entryFrame, mkF, argsToLocals, Value.category]; done) | rfl
def Q_rmP3 (Z : State) (p0 : Int32) (p2 : Int32) (q3 : Int64) (zc : Int32) (fm : Value) (h0 : Heap) (n0 : Nat) (v : Option Value) (h : Heap) (L : List Loc) : Prop := ∃ (cv : Int32), (v = some (.int cv) ∧ Fr n0 L ∧ Keep h0 h [] ∧ ¬ cv < 0 ∧ ¬ (255 : Int32) < cv)
set_option maxRecDepth 65536 in
set_option maxHeartbeats 40000000 in
theorem rmP3 (l : Launch) (Z : State) (a0 : Array Value) (hw : ∀ d ∈ tables_1, d.before a0 Z = true) (ws : List Jvm.Cond) (p0 : Int32) (p2 : Int32) (q3 : Int64) (zc : Int32) (fm : Value) (h0 : Heap) (n0 : Nat) (Z0 : n0 ≤ h0.size) (uO : Old Z n0 h0) (uS : Sta Z Z.heap "java/lang/String" "COMPACT_STRINGS" "Z" (.int zc)) (uF : Sta Z Z.heap "jdk/internal/util/Preconditions" "SIOOBE_FORMATTER" "Ljava/util/function/BiFunction;" fm) (uP : ¬ zc = 0) (uR : fm.isRef = true) :
    MetFree l (⟨"com/example/wireform/wireform/json/JsonIsReservedPinLaw", "pick", "(IIIJ)C"⟩ : MethodName) (head1 (Jvm.Cond.code (⟨"com/example/wireform/wireform/json/JsonIsReservedPinLaw", "pick", "(IIIJ)C"⟩ : MethodName) method_5_code 7 (some .char) :: ws) ({ frames := 5, cells := 2, slots := 24, locals := 67 } : Room)) (fun a U => a = #[(.int p0), (.int (3 : Int32)), (.int p2), (.long q3)] ∧ Z.Warmed39 U.vm ∧ U.heap = h0 ∧ CHv Z own_EL U.vm h0) (fun _ _ _ _ _ => True) (fun _ U o U' => ∃ v L, o = .returned v ∧ Q_rmP3 Z p0 p2 q3 zc fm h0 n0 v U'.heap L ∧ CHr Z own_EL U.vm U.heap U'.vm U'.heap ∧ ReturnedEndW U o U' L ({ frames := 5, cells := 2, slots := 24, locals := 67 } : Room).cells ({ frames := 5, cells := 2, slots := 24, locals := 67 } : Room).slots) := by
  refine MetFree.of_bodySF (plainFor_of_name pn_0) hisR ?_
  intro p e s m args below meth c s₁ Bd hml0 hP hK
  obtain ⟨rfl, hZ, hh, hC0⟩ := hP
  have hx := Bd.exec
  have hby := Bd.bytes
  have hml : c.maxLocals = 7 := hml0
  have hown : s.vm.findClass "com/example/wireform/wireform/json/JsonIsReservedPinLaw" = some m.cls := findClass_of_methodNamed Bd.named
  have hnm := (name_of_methodNamed Bd.named Bd.method).1
  have X0 : Stand p l e ({ frames := 5, cells := 2, slots := 24, locals := 67 } : Room) (s.setVm s.vm) m #[(.int p0), (.int (3 : Int32)), (.int p2), (.long q3)] below meth c s₁ [] 0 0 := Stand.of_body Bd
  have e0 : s₁.heap = h0 := by rw [← hh, Bd.state]; rfl
  have N0 := Fr.nil n0
  have pre0 : ∀ t, Steps p.tables e below (s₁.setTop (mkF m 0 #[vi p0, vi (3 : Int32), vi p2, vl q3, us, uu, uu] [])) t → Steps p.tables e below (s₁.setTop (entryFrame m #[(.int p0), (.int (3 : Int32)), (.int p2), (.long q3)] 7)) t := fun t k => castTop (ef_8 m p0 p2 q3) k
  have hS0 : s.Since s.vm 0 := (State.WarmedH.refl s).since _
  have hk0 : 0 ≤ h0.size := Nat.zero_le _
  have R0 := CHr.refl hC0
  obtain ⟨_, _, ⟨T1, Lw1, kw1, nw1⟩, -, X1, ⟨Lc1, hQ1, lq1, yq1, zq1⟩, st1⟩ := Jvm.LawKit.callS X0 hx (y := (⟨"com/example/wireform/wireform/json/JsonIsReservedPinLaw", "drawn", "(IJ)C"⟩ : MethodName)) hown (mvT hZ (wd hw 4 rfl)) (mvT hZ (wd hw 5 rfl)) (mvT hZ (wd hw 2 rfl)) (mvT hZ (wd hw 6 rfl)) (by decide) (backOf (W := 0) (rmD l Z a0 hw [] (3 : Int32) q3 h0 n0 Z0) hZ (wd hw 6 rfl) (wd hw 2 rfl) (by decide) (by decide)) (g := (mkF m 2 #[vi p0, vi (3 : Int32), vi p2, vl q3, us, uu, uu] [(.long q3), (.int (3 : Int32))])) rfl (by rw [hml]; rfl) (argsL := [(.int (3 : Int32)), (.long q3)]) (rest := []) (lenOf pd_2 rfl) rfl (by show 2 * 0 + _ ≤ _; exact Nat.le_of_eq rfl) (hb hby d1_2) (fun _ _ => ⟨rfl, e0, (by decide : 0 + 0 ≤ _), (by decide : 0 + 0 ≤ _)⟩)
  dsimp only [Pt.U, Pt.locs, Pt.cells, Pt.slots] at X1 lq1 yq1 zq1 st1 hQ1
  have X1 := own_reb X1 lq1 yq1 zq1
  obtain ⟨rfl, Nq1, eh1⟩ := hQ1
  have N1 := Fr.app N0 Nq1
  have sg2 : ∀ target, SS p e below T1 (mkF m 9 #[vi p0, vi (3 : Int32), vi p2, vl q3, us, vi (own_d (3 : Int32) q3), uu] [(.int p2), (.int (3 : Int32))]) target → SS p e below s₁ (mkF m 0 #[vi p0, vi (3 : Int32), vi p2, vl q3, us, uu, uu] []) target := by
    intro target kt
    show SS p e below s₁ (mkF m 0 #[vi p0, vi (3 : Int32), vi p2, vl q3, us, uu, uu] []) _
    refine XS.iloadN X0.here hx rfl (hb hby d1_0) rfl ?_
    show SS p e below s₁ (mkF m 1 #[vi p0, vi (3 : Int32), vi p2, vl q3, us, uu, uu] [(.int (3 : Int32))]) _
    refine XS.lloadN X0.here hx rfl (hb hby d1_1) rfl ?_
    show SS p e below s₁ (mkF m 2 #[vi p0, vi (3 : Int32), vi p2, vl q3, us, uu, uu] [(.long q3), (.int (3 : Int32))]) _
    refine st1 _ ?_
    show SS p e below T1 (mkF m 5 #[vi p0, vi (3 : Int32), vi p2, vl q3, us, uu, uu] [(.int (own_d (3 : Int32) q3))]) _
    refine XS.istore X1.here hx rfl (hb hby d1_5) rfl (l' := #[vi p0, vi (3 : Int32), vi p2, vl q3, us, vi (own_d (3 : Int32) q3), uu]) rfl ?_
    show SS p e below T1 (mkF m 7 #[vi p0, vi (3 : Int32), vi p2, vl q3, us, vi (own_d (3 : Int32) q3), uu] []) _
    refine XS.iloadN X1.here hx rfl (hb hby d1_7) rfl ?_
    show SS p e below T1 (mkF m 8 #[vi p0, vi (3 : Int32), vi p2, vl q3, us, vi (own_d (3 : Int32) q3), uu] [(.int (3 : Int32))]) _
    refine XS.iloadN X1.here hx rfl (hb hby d1_8) rfl ?_
    exact kt
  by_cases hm : (3 : Int32) = p2
  · obtain ⟨fs, hr, hrun, hended, en1, en2, en3, en4⟩ := X1.leaveW hS0 (own_hk eh1 hk0) (v := some (.int (nar .char (own_d (3 : Int32) q3)))) (fun h => by rw [Bd.returns] at h; cases h)
    refine ⟨_, _, pre0 _ ?_, hrun, hended, _, _, rfl, ?_, own_chr (T := T1) hh eh1 (R0.trans (CHv.at X1 hZ (own_EW hw) hC0)), en1, en2, en3, en4.mono (by decide) (by decide)⟩
    · refine sg2 _ ?_
      show SS p e below T1 (mkF m 9 #[vi p0, vi (3 : Int32), vi p2, vl q3, us, vi (own_d (3 : Int32) q3), uu] [(.int p2), (.int (3 : Int32))]) _
      refine XS.icmpNo X1.here hx rfl (hb hby d1_9) rfl (teq (hm : (3 : Int32) = p2)).2 ?_
      show SS p e below T1 (mkF m 12 #[vi p0, vi (3 : Int32), vi p2, vl q3, us, vi (own_d (3 : Int32) q3), uu] []) _
      refine XS.iload X1.here hx rfl (hb hby d1_12) rfl ?_
      show SS p e below T1 (mkF m 14 #[vi p0, vi (3 : Int32), vi p2, vl q3, us, vi (own_d (3 : Int32) q3), uu] [(.int (own_d (3 : Int32) q3))]) _
      exact retN X1 hx (t := .char) Bd.returns (by simp) (hb hby d1_14) hr
    · show Q_rmP3 Z p0 p2 q3 zc fm h0 n0 _ T1.heap _
      rw [eh1]
      exact ⟨(nar .char (own_d (3 : Int32) q3)), rfl, N1, (Keep.refl h0 []), (own_nb (own_db _ _))⟩
  · obtain ⟨_, _, ⟨T3, Lw3, kw3, nw3⟩, -, X3', hS3', hg3, ⟨Lc3, hQ3, lq3, yq3, zq3, CH3⟩, st3⟩ := callSS X1 hx (y := (⟨"com/example/wireform/wireform/json/JsonIsReservedPinLaw", "templ", "(II)C"⟩ : MethodName)) hown (mvT hZ (wd hw 8 rfl)) (mvT hZ (wd hw 9 rfl)) (mvT hZ (wd hw 2 rfl)) (mvT hZ (wd hw 10 rfl)) (by decide) (backOfSH (W := 0) (rmT3 l Z a0 hw [] p0 zc fm h0 n0 Z0 uO uS uF uP uR) hZ (wd hw 10 rfl) (wd hw 2 rfl) (by decide) (by decide) (own_EW hw) hC0) (g := (mkF m 17 #[vi p0, vi (3 : Int32), vi p2, vl q3, us, vi (own_d (3 : Int32) q3), uu] [(.int (3 : Int32)), (.int p0)])) rfl (by rw [hml]; rfl) (argsL := [(.int p0), (.int (3 : Int32))]) (rest := []) (lenOf pd_3 rfl) rfl (by show 2 * 0 + _ ≤ _; exact Nat.le_of_eq rfl) (hb hby d1_17) (fun _ _ => ⟨rfl, eh1, (by decide : 0 + 2 ≤ _), (by decide : 0 + 24 ≤ _)⟩)
    dsimp only [Pt.U, Pt.locs, Pt.cells, Pt.slots] at X3' hS3' hg3 lq3 yq3 zq3 st3 hQ3 CH3
    have X3' := own_reb X3' lq3 yq3 zq3
    obtain ⟨X3, hS3, hZ3, hown3⟩ := rebS hS0 (own_hk eh1 hk0) X3' hS3' hg3 hZ hown
    obtain ⟨cv_3, rfl, Nq3, Kq3, f3_0⟩ := hQ3
    have N3 := Fr.app N1 Nq3
    have Re4 := R0.trans CH3
    have hCe4 := Re4.1
    have K3 : Keep h0 T3.heap [] := (Keep.refl h0 []).trans Kq3 all0
    have Z3 : n0 ≤ T3.heap.size := Nat.le_trans Z0 Kq3.1
    have hk3 : T3.heap.size ≤ T3.heap.size := Nat.le_refl _
    have sg5 : ∀ target, SS p e below T3 (mkF m 24 #[vi p0, vi (3 : Int32), vi p2, vl q3, us, vi (own_d (3 : Int32) q3), vi cv_3] [(.int cv_3)]) target → SS p e below T1 (mkF m 9 #[vi p0, vi (3 : Int32), vi p2, vl q3, us, vi (own_d (3 : Int32) q3), uu] [(.int p2), (.int (3 : Int32))]) target := by
      intro target kt
      show SS p e below T1 (mkF m 9 #[vi p0, vi (3 : Int32), vi p2, vl q3, us, vi (own_d (3 : Int32) q3), uu] [(.int p2), (.int (3 : Int32))]) _
      refine XS.icmpYes X1.here hx rfl (pc0 := 9) (pc' := 15) rfl (hb hby d1_9) rfl (feq (hm : ¬ ((3 : Int32) = p2))).2 (by decide) (by decide) ?_
      show SS p e below T1 (mkF m 15 #[vi p0, vi (3 : Int32), vi p2, vl q3, us, vi (own_d (3 : Int32) q3), uu] []) _
      refine XS.iloadN X1.here hx rfl (hb hby d1_15) rfl ?_
      show SS p e below T1 (mkF m 16 #[vi p0, vi (3 : Int32), vi p2, vl q3, us, vi (own_d (3 : Int32) q3), uu] [(.int p0)]) _
      refine XS.iloadN X1.here hx rfl (hb hby d1_16) rfl ?_
      show SS p e below T1 (mkF m 17 #[vi p0, vi (3 : Int32), vi p2, vl q3, us, vi (own_d (3 : Int32) q3), uu] [(.int (3 : Int32)), (.int p0)]) _
      refine st3.trans ?_
      show SS p e below T3 (mkF m 20 #[vi p0, vi (3 : Int32), vi p2, vl q3, us, vi (own_d (3 : Int32) q3), uu] [(.int cv_3)]) _
      refine XS.istore X3.here hx rfl (hb hby d1_20) rfl (l' := #[vi p0, vi (3 : Int32), vi p2, vl q3, us, vi (own_d (3 : Int32) q3), vi cv_3]) rfl ?_
      show SS p e below T3 (mkF m 22 #[vi p0, vi (3 : Int32), vi p2, vl q3, us, vi (own_d (3 : Int32) q3), vi cv_3] []) _
      refine XS.iload X3.here hx rfl (hb hby d1_22) rfl ?_
      exact kt
    by_cases ht : cv_3 = (0 : Int32)
    · obtain ⟨fs, hr, hrun, hended, en1, en2, en3, en4⟩ := X3.leaveW hS3 (own_hk rfl hk3) (v := some (.int (nar .char (own_d (3 : Int32) q3)))) (fun h => by rw [Bd.returns] at h; cases h)
      refine ⟨_, _, pre0 _ ?_, hrun, hended, _, _, rfl, ?_, own_chr (T := T3) hh rfl (Re4.trans (CHv.at X3 hZ3 (own_EW hw) hCe4)), en1, en2, en3, en4.mono (by decide) (by decide)⟩
      · refine sg2 _ ?_
        refine sg5 _ ?_
        show SS p e below T3 (mkF m 24 #[vi p0, vi (3 : Int32), vi p2, vl q3, us, vi (own_d (3 : Int32) q3), vi cv_3] [(.int cv_3)]) _
        refine XS.ifNo X3.here hx rfl (hb hby d1_24) rfl ((if0 _ _).trans (teq (ht : cv_3 = (0 : Int32))).2) ?_
        show SS p e below T3 (mkF m 27 #[vi p0, vi (3 : Int32), vi p2, vl q3, us, vi (own_d (3 : Int32) q3), vi cv_3] []) _
        refine XS.iload X3.here hx rfl (hb hby d1_27) rfl ?_
        show SS p e below T3 (mkF m 29 #[vi p0, vi (3 : Int32), vi p2, vl q3, us, vi (own_d (3 : Int32) q3), vi cv_3] [(.int (own_d (3 : Int32) q3))]) _
        refine XS.goto X3.here hx rfl (pc0 := 29) (pc' := 34) rfl (hb hby d1_29) (by decide) (by decide) ?_
        show SS p e below T3 (mkF m 34 #[vi p0, vi (3 : Int32), vi p2, vl q3, us, vi (own_d (3 : Int32) q3), vi cv_3] [(.int (own_d (3 : Int32) q3))]) _
        exact retN X3 hx (t := .char) Bd.returns (by simp) (hb hby d1_34) hr
      · show Q_rmP3 Z p0 p2 q3 zc fm h0 n0 _ T3.heap _
        exact ⟨(nar .char (own_d (3 : Int32) q3)), rfl, N3, K3, (own_nb (own_db _ _))⟩
    · obtain ⟨fs, hr, hrun, hended, en1, en2, en3, en4⟩ := X3.leaveW hS3 (own_hk rfl hk3) (v := some (.int (nar .char cv_3))) (fun h => by rw [Bd.returns] at h; cases h)
      refine ⟨_, _, pre0 _ ?_, hrun, hended, _, _, rfl, ?_, own_chr (T := T3) hh rfl (Re4.trans (CHv.at X3 hZ3 (own_EW hw) hCe4)), en1, en2, en3, en4.mono (by decide) (by decide)⟩
      · refine sg2 _ ?_
        refine sg5 _ ?_
        show SS p e below T3 (mkF m 24 #[vi p0, vi (3 : Int32), vi p2, vl q3, us, vi (own_d (3 : Int32) q3), vi cv_3] [(.int cv_3)]) _
        refine XS.ifYes X3.here hx rfl (pc0 := 24) (pc' := 32) rfl (hb hby d1_24) rfl ((if0 _ _).trans (feq (ht : ¬ (cv_3 = (0 : Int32)))).2) (by decide) (by decide) ?_
        show SS p e below T3 (mkF m 32 #[vi p0, vi (3 : Int32), vi p2, vl q3, us, vi (own_d (3 : Int32) q3), vi cv_3] []) _
        refine XS.iload X3.here hx rfl (hb hby d1_32) rfl ?_
        show SS p e below T3 (mkF m 34 #[vi p0, vi (3 : Int32), vi p2, vl q3, us, vi (own_d (3 : Int32) q3), vi cv_3] [(.int cv_3)]) _
        exact retN X3 hx (t := .char) Bd.returns (by simp) (hb hby d1_34) hr
      · show Q_rmP3 Z p0 p2 q3 zc fm h0 n0 _ T3.heap _
        exact ⟨(nar .char cv_3), rfl, N3, K3, (own_nb f3_0)⟩
theorem ef_9 (m : MethodId) (x0 : Int32) : entryFrame m #[(.int x0), (.int (4 : Int32))] 3 = mkF m 0 #[vi x0, vi (4 : Int32), uu] [] := by first | (simp [entryFrame, mkF, argsToLocals, Value.category]; done) | rfl
theorem d3_75 : decode method_4_code 75 = .ok (.iconst 0, 1) := by decide +kernel
def Q_rmT4 (Z : State) (p0 : Int32) (zc : Int32) (fm : Value) (h0 : Heap) (n0 : Nat) (v : Option Value) (h : Heap) (L : List Loc) : Prop := ∃ (cv : Int32), (v = some (.int cv) ∧ Fr n0 L ∧ Keep h0 h [] ∧ ¬ cv < 0 ∧ ¬ (255 : Int32) < cv)
set_option maxRecDepth 65536 in
set_option maxHeartbeats 40000000 in
theorem rmT4 (l : Launch) (Z : State) (a0 : Array Value) (hw : ∀ d ∈ tables_1, d.before a0 Z = true) (ws : List Jvm.Cond) (p0 : Int32) (zc : Int32) (fm : Value) (h0 : Heap) (n0 : Nat) (Z0 : n0 ≤ h0.size) (uO : Old Z n0 h0) (uS : Sta Z Z.heap "java/lang/String" "COMPACT_STRINGS" "Z" (.int zc)) (uF : Sta Z Z.heap "jdk/internal/util/Preconditions" "SIOOBE_FORMATTER" "Ljava/util/function/BiFunction;" fm) (uP : ¬ zc = 0) (uR : fm.isRef = true) :
    MetFree l (⟨"com/example/wireform/wireform/json/JsonIsReservedPinLaw", "templ", "(II)C"⟩ : MethodName) (head1 (Jvm.Cond.code (⟨"com/example/wireform/wireform/json/JsonIsReservedPinLaw", "templ", "(II)C"⟩ : MethodName) method_4_code 3 (some .char) :: ws) ({ frames := 4, cells := 2, slots := 24, locals := 53 } : Room)) (fun a U => a = #[(.int p0), (.int (4 : Int32))] ∧ Z.Warmed39 U.vm ∧ U.heap = h0 ∧ CHv Z own_EL U.vm h0) (fun _ _ _ _ _ => True) (fun _ U o U' => ∃ v L, o = .returned v ∧ Q_rmT4 Z p0 zc fm h0 n0 v U'.heap L ∧ CHr Z own_EL U.vm U.heap U'.vm U'.heap ∧ ReturnedEndW U o U' L ({ frames := 4, cells := 2, slots := 24, locals := 53 } : Room).cells ({ frames := 4, cells := 2, slots := 24, locals := 53 } : Room).slots) := by
  refine MetFree.of_bodySF (plainFor_of_name pn_0) hisR ?_
  intro p e s m args below meth c s₁ Bd hml0 hP hK
  obtain ⟨rfl, hZ, hh, hC0⟩ := hP
  have hx := Bd.exec
  have hby := Bd.bytes
  have hml : c.maxLocals = 3 := hml0
  have hown : s.vm.findClass "com/example/wireform/wireform/json/JsonIsReservedPinLaw" = some m.cls := findClass_of_methodNamed Bd.named
  have hnm := (name_of_methodNamed Bd.named Bd.method).1
  have X0 : Stand p l e ({ frames := 4, cells := 2, slots := 24, locals := 53 } : Room) (s.setVm s.vm) m #[(.int p0), (.int (4 : Int32))] below meth c s₁ [] 0 0 := Stand.of_body Bd
  have e0 : s₁.heap = h0 := by rw [← hh, Bd.state]; rfl
  have N0 := Fr.nil n0
  have pre0 : ∀ t, Steps p.tables e below (s₁.setTop (mkF m 0 #[vi p0, vi (4 : Int32), uu] [])) t → Steps p.tables e below (s₁.setTop (entryFrame m #[(.int p0), (.int (4 : Int32))] 3)) t := fun t k => castTop (ef_9 m p0) k
  have hS0 : s.Since s.vm 0 := (State.WarmedH.refl s).since _
  have hk0 : 0 ≤ h0.size := Nat.zero_le _
  have R0 := CHr.refl hC0
  by_cases hq_0 : p0 = (0 : Int32)
  · obtain ⟨b1, T1, h1, kk1, t1, kc1, X1, e1, E1, hS1, hk1, hZ1, hown1, fE1, fC1, fV1, fK1, lta1, ltb1, CH1, -, SF1, st1⟩ := ldcCH X0 hx hZ hown (wd hw 11 rfl) (fun d hd => hw d (own_strAtoms d hd)) e0 hS0 hk0 (own_EW hw) (by decide) hC0 (vs := [(.int (64 : Int32)), (.int (116 : Int32)), (.int (121 : Int32)), (.int (112 : Int32)), (.int (101 : Int32))]) (z := (5 : Int32)) ⟨by decide, by decide⟩ (by decide) (by decide) (g := (mkF m 4 #[vi p0, vi (4 : Int32), uu] [])) rfl (hb hby d3_4) (n := 20) (by decide) (by decide) (by decide) (by decide)
    have Re2 := R0.trans CH1
    have hCe2 := Re2.1
    have K1 : Keep h0 h1 [] := (Keep.refl h0 []).ext E1
    have Z1 : n0 ≤ h1.size := Nat.le_trans Z0 E1.1
    have c4 := (uO.ext E1)
    obtain ⟨cq3, kq3, q3a, q3b, q3c⟩ := isOf hZ1 e1 fE1
    obtain ⟨_, _, ⟨T3, Lw3, kw3, nw3⟩, -, X3, ⟨Lc3, hQ3, lq3, yq3, zq3⟩, st3⟩ := X1.virtualBack hx (y := (⟨"java/lang/String", "length", "()I"⟩ : MethodName)) (z := (⟨"java/lang/String", "length", "()I"⟩ : MethodName)) hown1 (mvT hZ1 (wd hw 19 rfl)) (mvT hZ1 (wd hw 20 rfl)) (notFace_of_selects (args := #[]) (mvT hZ1 (wd hw 22 rfl))) (mvT hZ1 (wd hw 22 rfl)) (mvT hZ1 (wd hw 21 rfl)) (by decide) (StrChars.Road.lenW (W := 1) hZ1 (fun d hd => hw d (own_w_wordsLen d hd)) (kI := 4) (wd hw 13 rfl) fE1 fV1 fC1 fK1 (StrChars.Road.codOf (cs := ([64, 116, 121, 112, 101] : List Int32)) (n := 5) rfl (fun c hc => (own_hp0 c hc).2)) (own_up own_hp0) (uS.ext c4.2) uP (Nat.le_of_ble_eq_true rfl) (by decide) (by decide)) q3a q3c (g := (mkF m 9 #[vi p0, vi (4 : Int32), vr b1] [(.ref b1), (.int (4 : Int32))])) rfl (by rw [hml]; rfl) (Steps.refl _) (argsL := []) (rest := [(.int (4 : Int32))]) (lenOf pd_0 rfl) rfl (by show 2 * 0 + _ ≤ _; exact Nat.le_of_eq rfl) (hb hby d3_9) (fun _ _ => ⟨rfl, e1, (by decide : 2 + 0 ≤ _), (by decide : 24 + 0 ≤ _)⟩)
    dsimp only [Pt.U, Pt.locs, Pt.cells, Pt.slots] at X3 lq3 yq3 zq3 st3 hQ3
    have X3 := own_reb X3 lq3 yq3 zq3
    obtain ⟨rfl, rfl, eh3⟩ := hQ3
    have N3 := Fr.app N0 (Fr.nil n0)
    obtain ⟨cq5, kq5, q5a, q5b, q5c⟩ := isOf hZ1 eh3 fE1
    obtain ⟨_, _, ⟨T5, Lw5, kw5, nw5⟩, -, X5, ⟨Lc5, hQ5, lq5, yq5, zq5⟩, st5⟩ := X3.virtualBack hx (y := (⟨"java/lang/String", "charAt", "(I)C"⟩ : MethodName)) (z := (⟨"java/lang/String", "charAt", "(I)C"⟩ : MethodName)) hown1 (mvT hZ1 (wd hw 32 rfl)) (mvT hZ1 (wd hw 33 rfl)) (notFace_of_selects (args := #[]) (mvT hZ1 (wd hw 35 rfl))) (mvT hZ1 (wd hw 35 rfl)) (mvT hZ1 (wd hw 34 rfl)) (by decide) (StrChars.Road.chN (W := 0) hZ1 (fun d hd => hw d (own_w_wordsChN d hd)) (kI := 4) (wd hw 13 rfl) fE1 fV1 fC1 fK1 (StrChars.Road.codOf (cs := ([64, 116, 121, 112, 101] : List Int32)) (n := 5) rfl (fun c hc => (own_hp0 c hc).2)) (own_up own_hp0) (uS.ext c4.2) uP (uF.ext c4.2) uR (Nat.le_of_ble_eq_true rfl) (i := 4) (Nat.le_of_ble_eq_true rfl) (j := (4 : Int32)) rfl (by decide) (by decide)) q5a q5c (g := (mkF m 17 #[vi p0, vi (4 : Int32), vr b1] [(.int (4 : Int32)), (.ref b1)])) rfl (by rw [hml]; rfl) (Steps.refl _) (argsL := [(.int (4 : Int32))]) (rest := []) (lenOf pd_1 rfl) rfl (by show 2 * 0 + _ ≤ _; exact Nat.le_of_eq rfl) (hb hby d3_17) (fun _ _ => ⟨rfl, eh3, (by decide : 2 + 0 ≤ _), (by decide : 24 + 0 ≤ _)⟩)
    dsimp only [Pt.U, Pt.locs, Pt.cells, Pt.slots] at X5 lq5 yq5 zq5 st5 hQ5
    have X5 := own_reb X5 lq5 yq5 zq5
    obtain ⟨rfl, rfl, eh5⟩ := hQ5
    have N5 := Fr.app N3 (Fr.nil n0)
    obtain ⟨fs, hr, hrun, hended, en1, en2, en3, en4⟩ := X5.leaveW hS1 (own_hk eh5 hk1) (v := some (.int (nar .char (101 : Int32)))) (fun h => by rw [Bd.returns] at h; cases h)
    refine ⟨_, _, pre0 _ ?_, hrun, hended, _, _, rfl, ?_, own_chr (T := T5) hh eh5 (Re2.trans (CHv.at X5 hZ1 (own_EW hw) hCe2)), en1, en2, en3, en4.mono (by decide) (by decide)⟩
    · show SS p e below s₁ (mkF m 0 #[vi p0, vi (4 : Int32), uu] []) _
      refine XS.iloadN X0.here hx rfl (hb hby d3_0) rfl ?_
      show SS p e below s₁ (mkF m 1 #[vi p0, vi (4 : Int32), uu] [(.int p0)]) _
      refine XS.ifNo X0.here hx rfl (hb hby d3_1) rfl ((if0 _ _).trans (teq (hq_0 : p0 = (0 : Int32))).2) ?_
      show SS p e below s₁ (mkF m 4 #[vi p0, vi (4 : Int32), uu] []) _
      refine st1 _ ?_
      show SS p e below T1 (mkF m 6 #[vi p0, vi (4 : Int32), uu] [(.ref b1)]) _
      refine XS.astoreN X1.here hx rfl (hb hby d3_6) rfl rfl (l' := #[vi p0, vi (4 : Int32), vr b1]) rfl ?_
      show SS p e below T1 (mkF m 7 #[vi p0, vi (4 : Int32), vr b1] []) _
      refine XS.iloadN X1.here hx rfl (hb hby d3_7) rfl ?_
      show SS p e below T1 (mkF m 8 #[vi p0, vi (4 : Int32), vr b1] [(.int (4 : Int32))]) _
      refine XS.aloadN X1.here hx rfl (hb hby d3_8) rfl rfl ?_
      show SS p e below T1 (mkF m 9 #[vi p0, vi (4 : Int32), vr b1] [(.ref b1), (.int (4 : Int32))]) _
      refine st3.trans ?_
      show SS p e below T3 (mkF m 12 #[vi p0, vi (4 : Int32), vr b1] [(.int (5 : Int32)), (.int (4 : Int32))]) _
      refine XS.icmpNo X3.here hx rfl (hb hby d3_12) rfl (tlt (by decide : (4 : Int32) < (5 : Int32))).2.1 ?_
      show SS p e below T3 (mkF m 15 #[vi p0, vi (4 : Int32), vr b1] []) _
      refine XS.aloadN X3.here hx rfl (hb hby d3_15) rfl rfl ?_
      show SS p e below T3 (mkF m 16 #[vi p0, vi (4 : Int32), vr b1] [(.ref b1)]) _
      refine XS.iloadN X3.here hx rfl (hb hby d3_16) rfl ?_
      show SS p e below T3 (mkF m 17 #[vi p0, vi (4 : Int32), vr b1] [(.int (4 : Int32)), (.ref b1)]) _
      refine st5.trans ?_
      show SS p e below T5 (mkF m 20 #[vi p0, vi (4 : Int32), vr b1] [(.int (101 : Int32))]) _
      refine XS.goto X5.here hx rfl (pc0 := 20) (pc' := 24) rfl (hb hby d3_20) (by decide) (by decide) ?_
      show SS p e below T5 (mkF m 24 #[vi p0, vi (4 : Int32), vr b1] [(.int (101 : Int32))]) _
      exact retN X5 hx (t := .char) Bd.returns (by simp) (hb hby d3_24) hr
    · show Q_rmT4 Z p0 zc fm h0 n0 _ T5.heap _
      rw [eh5]
      exact ⟨(nar .char (101 : Int32)), rfl, N5, K1, (by decide)⟩
  · have sg6 : ∀ target, SS p e below s₁ (mkF m 27 #[vi p0, vi (4 : Int32), uu] [(.int (1 : Int32)), (.int p0)]) target → SS p e below s₁ (mkF m 0 #[vi p0, vi (4 : Int32), uu] []) target := by
      intro target kt
      show SS p e below s₁ (mkF m 0 #[vi p0, vi (4 : Int32), uu] []) _
      refine XS.iloadN X0.here hx rfl (hb hby d3_0) rfl ?_
      show SS p e below s₁ (mkF m 1 #[vi p0, vi (4 : Int32), uu] [(.int p0)]) _
      refine XS.ifYes X0.here hx rfl (pc0 := 1) (pc' := 25) rfl (hb hby d3_1) rfl ((if0 _ _).trans (feq (hq_0 : ¬ (p0 = (0 : Int32)))).2) (by decide) (by decide) ?_
      show SS p e below s₁ (mkF m 25 #[vi p0, vi (4 : Int32), uu] []) _
      refine XS.iloadN X0.here hx rfl (hb hby d3_25) rfl ?_
      show SS p e below s₁ (mkF m 26 #[vi p0, vi (4 : Int32), uu] [(.int p0)]) _
      refine XS.iconst X0.here hx rfl (hb hby d3_26) ?_
      exact kt
    by_cases hq_1 : p0 = (1 : Int32)
    · obtain ⟨b7, T7, h7, kk7, t7, kc7, X7, e7, E7, hS7, hk7, hZ7, hown7, fE7, fC7, fV7, fK7, lta7, ltb7, CH7, -, SF7, st7⟩ := ldcCH X0 hx hZ hown (wd hw 96 rfl) (fun d hd => hw d (own_strAtoms d hd)) e0 hS0 hk0 (own_EW hw) (by decide) hC0 (vs := [(.int (64 : Int32)), (.int (105 : Int32)), (.int (100 : Int32))]) (z := (3 : Int32)) ⟨by decide, by decide⟩ (by decide) (by decide) (g := (mkF m 30 #[vi p0, vi (4 : Int32), uu] [])) rfl (hb hby d3_30) (n := 12) (by decide) (by decide) (by decide) (by decide)
      have Re8 := R0.trans CH7
      have hCe8 := Re8.1
      have K7 : Keep h0 h7 [] := (Keep.refl h0 []).ext E7
      have Z7 : n0 ≤ h7.size := Nat.le_trans Z0 E7.1
      have c10 := (uO.ext E7)
      obtain ⟨cq9, kq9, q9a, q9b, q9c⟩ := isOf hZ7 e7 fE7
      obtain ⟨_, _, ⟨T9, Lw9, kw9, nw9⟩, -, X9, ⟨Lc9, hQ9, lq9, yq9, zq9⟩, st9⟩ := X7.virtualBack hx (y := (⟨"java/lang/String", "length", "()I"⟩ : MethodName)) (z := (⟨"java/lang/String", "length", "()I"⟩ : MethodName)) hown7 (mvT hZ7 (wd hw 19 rfl)) (mvT hZ7 (wd hw 20 rfl)) (notFace_of_selects (args := #[]) (mvT hZ7 (wd hw 22 rfl))) (mvT hZ7 (wd hw 22 rfl)) (mvT hZ7 (wd hw 21 rfl)) (by decide) (StrChars.Road.lenW (W := 1) hZ7 (fun d hd => hw d (own_w_wordsLen d hd)) (kI := 4) (wd hw 13 rfl) fE7 fV7 fC7 fK7 (StrChars.Road.codOf (cs := ([64, 105, 100] : List Int32)) (n := 3) rfl (fun c hc => (own_hp1 c hc).2)) (own_up own_hp1) (uS.ext c10.2) uP (Nat.le_of_ble_eq_true rfl) (by decide) (by decide)) q9a q9c (g := (mkF m 35 #[vi p0, vi (4 : Int32), vr b7] [(.ref b7), (.int (4 : Int32))])) rfl (by rw [hml]; rfl) (Steps.refl _) (argsL := []) (rest := [(.int (4 : Int32))]) (lenOf pd_0 rfl) rfl (by show 2 * 0 + _ ≤ _; exact Nat.le_of_eq rfl) (hb hby d3_35) (fun _ _ => ⟨rfl, e7, (by decide : 2 + 0 ≤ _), (by decide : 16 + 0 ≤ _)⟩)
      dsimp only [Pt.U, Pt.locs, Pt.cells, Pt.slots] at X9 lq9 yq9 zq9 st9 hQ9
      have X9 := own_reb X9 lq9 yq9 zq9
      obtain ⟨rfl, rfl, eh9⟩ := hQ9
      have N9 := Fr.app N0 (Fr.nil n0)
      obtain ⟨fs, hr, hrun, hended, en1, en2, en3, en4⟩ := X9.leaveW hS7 (own_hk eh9 hk7) (v := some (.int (nar .char (0 : Int32)))) (fun h => by rw [Bd.returns] at h; cases h)
      refine ⟨_, _, pre0 _ ?_, hrun, hended, _, _, rfl, ?_, own_chr (T := T9) hh eh9 (Re8.trans (CHv.at X9 hZ7 (own_EW hw) hCe8)), en1, en2, en3, en4.mono (by decide) (by decide)⟩
      · refine sg6 _ ?_
        show SS p e below s₁ (mkF m 27 #[vi p0, vi (4 : Int32), uu] [(.int (1 : Int32)), (.int p0)]) _
        refine XS.icmpNo X0.here hx rfl (hb hby d3_27) rfl (teq (hq_1 : p0 = (1 : Int32))).2 ?_
        show SS p e below s₁ (mkF m 30 #[vi p0, vi (4 : Int32), uu] []) _
        refine st7 _ ?_
        show SS p e below T7 (mkF m 32 #[vi p0, vi (4 : Int32), uu] [(.ref b7)]) _
        refine XS.astoreN X7.here hx rfl (hb hby d3_32) rfl rfl (l' := #[vi p0, vi (4 : Int32), vr b7]) rfl ?_
        show SS p e below T7 (mkF m 33 #[vi p0, vi (4 : Int32), vr b7] []) _
        refine XS.iloadN X7.here hx rfl (hb hby d3_33) rfl ?_
        show SS p e below T7 (mkF m 34 #[vi p0, vi (4 : Int32), vr b7] [(.int (4 : Int32))]) _
        refine XS.aloadN X7.here hx rfl (hb hby d3_34) rfl rfl ?_
        show SS p e below T7 (mkF m 35 #[vi p0, vi (4 : Int32), vr b7] [(.ref b7), (.int (4 : Int32))]) _
        refine st9.trans ?_
        show SS p e below T9 (mkF m 38 #[vi p0, vi (4 : Int32), vr b7] [(.int (3 : Int32)), (.int (4 : Int32))]) _
        refine XS.icmpYes X9.here hx rfl (pc0 := 38) (pc' := 49) rfl (hb hby d3_38) rfl (flt (by decide : ¬ ((4 : Int32) < (3 : Int32)))).2.1 (by decide) (by decide) ?_
        show SS p e below T9 (mkF m 49 #[vi p0, vi (4 : Int32), vr b7] []) _
        refine XS.iconst X9.here hx rfl (hb hby d3_49) ?_
        show SS p e below T9 (mkF m 50 #[vi p0, vi (4 : Int32), vr b7] [(.int (0 : Int32))]) _
        exact retN X9 hx (t := .char) Bd.returns (by simp) (hb hby d3_50) hr
      · show Q_rmT4 Z p0 zc fm h0 n0 _ T9.heap _
        rw [eh9]
        exact ⟨(nar .char (0 : Int32)), rfl, N9, K7, (by decide)⟩
    · have sg11 : ∀ target, SS p e below s₁ (mkF m 53 #[vi p0, vi (4 : Int32), uu] [(.int (2 : Int32)), (.int p0)]) target → SS p e below s₁ (mkF m 27 #[vi p0, vi (4 : Int32), uu] [(.int (1 : Int32)), (.int p0)]) target := by
        intro target kt
        show SS p e below s₁ (mkF m 27 #[vi p0, vi (4 : Int32), uu] [(.int (1 : Int32)), (.int p0)]) _
        refine XS.icmpYes X0.here hx rfl (pc0 := 27) (pc' := 51) rfl (hb hby d3_27) rfl (feq (hq_1 : ¬ (p0 = (1 : Int32)))).2 (by decide) (by decide) ?_
        show SS p e below s₁ (mkF m 51 #[vi p0, vi (4 : Int32), uu] []) _
        refine XS.iloadN X0.here hx rfl (hb hby d3_51) rfl ?_
        show SS p e below s₁ (mkF m 52 #[vi p0, vi (4 : Int32), uu] [(.int p0)]) _
        refine XS.iconst X0.here hx rfl (hb hby d3_52) ?_
        exact kt
      by_cases hq_2 : p0 = (2 : Int32)
      · obtain ⟨b12, T12, h12, kk12, t12, kc12, X12, e12, E12, hS12, hk12, hZ12, hown12, fE12, fC12, fV12, fK12, lta12, ltb12, CH12, -, SF12, st12⟩ := ldcCH X0 hx hZ hown (wd hw 97 rfl) (fun d hd => hw d (own_strAtoms d hd)) e0 hS0 hk0 (own_EW hw) (by decide) hC0 (vs := [(.int (64 : Int32)), (.int (114 : Int32)), (.int (101 : Int32)), (.int (102 : Int32))]) (z := (4 : Int32)) ⟨by decide, by decide⟩ (by decide) (by decide) (g := (mkF m 56 #[vi p0, vi (4 : Int32), uu] [])) rfl (hb hby d3_56) (n := 16) (by decide) (by decide) (by decide) (by decide)
        have Re13 := R0.trans CH12
        have hCe13 := Re13.1
        have K12 : Keep h0 h12 [] := (Keep.refl h0 []).ext E12
        have Z12 : n0 ≤ h12.size := Nat.le_trans Z0 E12.1
        have c15 := (uO.ext E12)
        obtain ⟨cq14, kq14, q14a, q14b, q14c⟩ := isOf hZ12 e12 fE12
        obtain ⟨_, _, ⟨T14, Lw14, kw14, nw14⟩, -, X14, ⟨Lc14, hQ14, lq14, yq14, zq14⟩, st14⟩ := X12.virtualBack hx (y := (⟨"java/lang/String", "length", "()I"⟩ : MethodName)) (z := (⟨"java/lang/String", "length", "()I"⟩ : MethodName)) hown12 (mvT hZ12 (wd hw 19 rfl)) (mvT hZ12 (wd hw 20 rfl)) (notFace_of_selects (args := #[]) (mvT hZ12 (wd hw 22 rfl))) (mvT hZ12 (wd hw 22 rfl)) (mvT hZ12 (wd hw 21 rfl)) (by decide) (StrChars.Road.lenW (W := 1) hZ12 (fun d hd => hw d (own_w_wordsLen d hd)) (kI := 4) (wd hw 13 rfl) fE12 fV12 fC12 fK12 (StrChars.Road.codOf (cs := ([64, 114, 101, 102] : List Int32)) (n := 4) rfl (fun c hc => (own_hp2 c hc).2)) (own_up own_hp2) (uS.ext c15.2) uP (Nat.le_of_ble_eq_true rfl) (by decide) (by decide)) q14a q14c (g := (mkF m 61 #[vi p0, vi (4 : Int32), vr b12] [(.ref b12), (.int (4 : Int32))])) rfl (by rw [hml]; rfl) (Steps.refl _) (argsL := []) (rest := [(.int (4 : Int32))]) (lenOf pd_0 rfl) rfl (by show 2 * 0 + _ ≤ _; exact Nat.le_of_eq rfl) (hb hby d3_61) (fun _ _ => ⟨rfl, e12, (by decide : 2 + 0 ≤ _), (by decide : 20 + 0 ≤ _)⟩)
        dsimp only [Pt.U, Pt.locs, Pt.cells, Pt.slots] at X14 lq14 yq14 zq14 st14 hQ14
        have X14 := own_reb X14 lq14 yq14 zq14
        obtain ⟨rfl, rfl, eh14⟩ := hQ14
        have N14 := Fr.app N0 (Fr.nil n0)
        obtain ⟨fs, hr, hrun, hended, en1, en2, en3, en4⟩ := X14.leaveW hS12 (own_hk eh14 hk12) (v := some (.int (nar .char (0 : Int32)))) (fun h => by rw [Bd.returns] at h; cases h)
        refine ⟨_, _, pre0 _ ?_, hrun, hended, _, _, rfl, ?_, own_chr (T := T14) hh eh14 (Re13.trans (CHv.at X14 hZ12 (own_EW hw) hCe13)), en1, en2, en3, en4.mono (by decide) (by decide)⟩
        · refine sg6 _ ?_
          refine sg11 _ ?_
          show SS p e below s₁ (mkF m 53 #[vi p0, vi (4 : Int32), uu] [(.int (2 : Int32)), (.int p0)]) _
          refine XS.icmpNo X0.here hx rfl (hb hby d3_53) rfl (teq (hq_2 : p0 = (2 : Int32))).2 ?_
          show SS p e below s₁ (mkF m 56 #[vi p0, vi (4 : Int32), uu] []) _
          refine st12 _ ?_
          show SS p e below T12 (mkF m 58 #[vi p0, vi (4 : Int32), uu] [(.ref b12)]) _
          refine XS.astoreN X12.here hx rfl (hb hby d3_58) rfl rfl (l' := #[vi p0, vi (4 : Int32), vr b12]) rfl ?_
          show SS p e below T12 (mkF m 59 #[vi p0, vi (4 : Int32), vr b12] []) _
          refine XS.iloadN X12.here hx rfl (hb hby d3_59) rfl ?_
          show SS p e below T12 (mkF m 60 #[vi p0, vi (4 : Int32), vr b12] [(.int (4 : Int32))]) _
          refine XS.aloadN X12.here hx rfl (hb hby d3_60) rfl rfl ?_
          show SS p e below T12 (mkF m 61 #[vi p0, vi (4 : Int32), vr b12] [(.ref b12), (.int (4 : Int32))]) _
          refine st14.trans ?_
          show SS p e below T14 (mkF m 64 #[vi p0, vi (4 : Int32), vr b12] [(.int (4 : Int32)), (.int (4 : Int32))]) _
          refine XS.icmpYes X14.here hx rfl (pc0 := 64) (pc' := 75) rfl (hb hby d3_64) rfl (flt (by decide : ¬ ((4 : Int32) < (4 : Int32)))).2.1 (by decide) (by decide) ?_
          show SS p e below T14 (mkF m 75 #[vi p0, vi (4 : Int32), vr b12] []) _
          refine XS.iconst X14.here hx rfl (hb hby d3_75) ?_
          show SS p e below T14 (mkF m 76 #[vi p0, vi (4 : Int32), vr b12] [(.int (0 : Int32))]) _
          exact retN X14 hx (t := .char) Bd.returns (by simp) (hb hby d3_76) hr
        · show Q_rmT4 Z p0 zc fm h0 n0 _ T14.heap _
          rw [eh14]
          exact ⟨(nar .char (0 : Int32)), rfl, N14, K12, (by decide)⟩
      · obtain ⟨fs, hr, hrun, hended, en1, en2, en3, en4⟩ := X0.leaveW hS0 (own_hk e0 hk0) (v := some (.int (nar .char (0 : Int32)))) (fun h => by rw [Bd.returns] at h; cases h)
        refine ⟨_, _, pre0 _ ?_, hrun, hended, _, _, rfl, ?_, own_chr (T := s₁) hh e0 (R0.trans (CHv.at X0 hZ (own_EW hw) hC0)), en1, en2, en3, en4.mono (by decide) (by decide)⟩
        · refine sg6 _ ?_
          refine sg11 _ ?_
          show SS p e below s₁ (mkF m 53 #[vi p0, vi (4 : Int32), uu] [(.int (2 : Int32)), (.int p0)]) _
          refine XS.icmpYes X0.here hx rfl (pc0 := 53) (pc' := 77) rfl (hb hby d3_53) rfl (feq (hq_2 : ¬ (p0 = (2 : Int32)))).2 (by decide) (by decide) ?_
          show SS p e below s₁ (mkF m 77 #[vi p0, vi (4 : Int32), uu] []) _
          refine XS.iconst X0.here hx rfl (hb hby d3_77) ?_
          show SS p e below s₁ (mkF m 78 #[vi p0, vi (4 : Int32), uu] [(.int (0 : Int32))]) _
          exact retN X0 hx (t := .char) Bd.returns (by simp) (hb hby d3_78) hr
        · show Q_rmT4 Z p0 zc fm h0 n0 _ s₁.heap _
          rw [e0]
          exact ⟨(nar .char (0 : Int32)), rfl, N0, (Keep.refl h0 []), (by decide)⟩
theorem ef_10 (m : MethodId) (x0 : Int32) (x2 : Int32) (x3 : Int64) : entryFrame m #[(.int x0), (.int (4 : Int32)), (.int x2), (.long x3)] 7 = mkF m 0 #[vi x0, vi (4 : Int32), vi x2, vl x3, us, uu, uu] [] := by first | (simp [entryFrame, mkF, argsToLocals, Value.category]; done) | rfl
def Q_rmP4 (Z : State) (p0 : Int32) (p2 : Int32) (q3 : Int64) (zc : Int32) (fm : Value) (h0 : Heap) (n0 : Nat) (v : Option Value) (h : Heap) (L : List Loc) : Prop := ∃ (cv : Int32), (v = some (.int cv) ∧ Fr n0 L ∧ Keep h0 h [] ∧ ¬ cv < 0 ∧ ¬ (255 : Int32) < cv)
set_option maxRecDepth 65536 in
set_option maxHeartbeats 40000000 in
theorem rmP4 (l : Launch) (Z : State) (a0 : Array Value) (hw : ∀ d ∈ tables_1, d.before a0 Z = true) (ws : List Jvm.Cond) (p0 : Int32) (p2 : Int32) (q3 : Int64) (zc : Int32) (fm : Value) (h0 : Heap) (n0 : Nat) (Z0 : n0 ≤ h0.size) (uO : Old Z n0 h0) (uS : Sta Z Z.heap "java/lang/String" "COMPACT_STRINGS" "Z" (.int zc)) (uF : Sta Z Z.heap "jdk/internal/util/Preconditions" "SIOOBE_FORMATTER" "Ljava/util/function/BiFunction;" fm) (uP : ¬ zc = 0) (uR : fm.isRef = true) :
    MetFree l (⟨"com/example/wireform/wireform/json/JsonIsReservedPinLaw", "pick", "(IIIJ)C"⟩ : MethodName) (head1 (Jvm.Cond.code (⟨"com/example/wireform/wireform/json/JsonIsReservedPinLaw", "pick", "(IIIJ)C"⟩ : MethodName) method_5_code 7 (some .char) :: ws) ({ frames := 5, cells := 2, slots := 24, locals := 67 } : Room)) (fun a U => a = #[(.int p0), (.int (4 : Int32)), (.int p2), (.long q3)] ∧ Z.Warmed39 U.vm ∧ U.heap = h0 ∧ CHv Z own_EL U.vm h0) (fun _ _ _ _ _ => True) (fun _ U o U' => ∃ v L, o = .returned v ∧ Q_rmP4 Z p0 p2 q3 zc fm h0 n0 v U'.heap L ∧ CHr Z own_EL U.vm U.heap U'.vm U'.heap ∧ ReturnedEndW U o U' L ({ frames := 5, cells := 2, slots := 24, locals := 67 } : Room).cells ({ frames := 5, cells := 2, slots := 24, locals := 67 } : Room).slots) := by
  refine MetFree.of_bodySF (plainFor_of_name pn_0) hisR ?_
  intro p e s m args below meth c s₁ Bd hml0 hP hK
  obtain ⟨rfl, hZ, hh, hC0⟩ := hP
  have hx := Bd.exec
  have hby := Bd.bytes
  have hml : c.maxLocals = 7 := hml0
  have hown : s.vm.findClass "com/example/wireform/wireform/json/JsonIsReservedPinLaw" = some m.cls := findClass_of_methodNamed Bd.named
  have hnm := (name_of_methodNamed Bd.named Bd.method).1
  have X0 : Stand p l e ({ frames := 5, cells := 2, slots := 24, locals := 67 } : Room) (s.setVm s.vm) m #[(.int p0), (.int (4 : Int32)), (.int p2), (.long q3)] below meth c s₁ [] 0 0 := Stand.of_body Bd
  have e0 : s₁.heap = h0 := by rw [← hh, Bd.state]; rfl
  have N0 := Fr.nil n0
  have pre0 : ∀ t, Steps p.tables e below (s₁.setTop (mkF m 0 #[vi p0, vi (4 : Int32), vi p2, vl q3, us, uu, uu] [])) t → Steps p.tables e below (s₁.setTop (entryFrame m #[(.int p0), (.int (4 : Int32)), (.int p2), (.long q3)] 7)) t := fun t k => castTop (ef_10 m p0 p2 q3) k
  have hS0 : s.Since s.vm 0 := (State.WarmedH.refl s).since _
  have hk0 : 0 ≤ h0.size := Nat.zero_le _
  have R0 := CHr.refl hC0
  obtain ⟨_, _, ⟨T1, Lw1, kw1, nw1⟩, -, X1, ⟨Lc1, hQ1, lq1, yq1, zq1⟩, st1⟩ := Jvm.LawKit.callS X0 hx (y := (⟨"com/example/wireform/wireform/json/JsonIsReservedPinLaw", "drawn", "(IJ)C"⟩ : MethodName)) hown (mvT hZ (wd hw 4 rfl)) (mvT hZ (wd hw 5 rfl)) (mvT hZ (wd hw 2 rfl)) (mvT hZ (wd hw 6 rfl)) (by decide) (backOf (W := 0) (rmD l Z a0 hw [] (4 : Int32) q3 h0 n0 Z0) hZ (wd hw 6 rfl) (wd hw 2 rfl) (by decide) (by decide)) (g := (mkF m 2 #[vi p0, vi (4 : Int32), vi p2, vl q3, us, uu, uu] [(.long q3), (.int (4 : Int32))])) rfl (by rw [hml]; rfl) (argsL := [(.int (4 : Int32)), (.long q3)]) (rest := []) (lenOf pd_2 rfl) rfl (by show 2 * 0 + _ ≤ _; exact Nat.le_of_eq rfl) (hb hby d1_2) (fun _ _ => ⟨rfl, e0, (by decide : 0 + 0 ≤ _), (by decide : 0 + 0 ≤ _)⟩)
  dsimp only [Pt.U, Pt.locs, Pt.cells, Pt.slots] at X1 lq1 yq1 zq1 st1 hQ1
  have X1 := own_reb X1 lq1 yq1 zq1
  obtain ⟨rfl, Nq1, eh1⟩ := hQ1
  have N1 := Fr.app N0 Nq1
  have sg2 : ∀ target, SS p e below T1 (mkF m 9 #[vi p0, vi (4 : Int32), vi p2, vl q3, us, vi (own_d (4 : Int32) q3), uu] [(.int p2), (.int (4 : Int32))]) target → SS p e below s₁ (mkF m 0 #[vi p0, vi (4 : Int32), vi p2, vl q3, us, uu, uu] []) target := by
    intro target kt
    show SS p e below s₁ (mkF m 0 #[vi p0, vi (4 : Int32), vi p2, vl q3, us, uu, uu] []) _
    refine XS.iloadN X0.here hx rfl (hb hby d1_0) rfl ?_
    show SS p e below s₁ (mkF m 1 #[vi p0, vi (4 : Int32), vi p2, vl q3, us, uu, uu] [(.int (4 : Int32))]) _
    refine XS.lloadN X0.here hx rfl (hb hby d1_1) rfl ?_
    show SS p e below s₁ (mkF m 2 #[vi p0, vi (4 : Int32), vi p2, vl q3, us, uu, uu] [(.long q3), (.int (4 : Int32))]) _
    refine st1 _ ?_
    show SS p e below T1 (mkF m 5 #[vi p0, vi (4 : Int32), vi p2, vl q3, us, uu, uu] [(.int (own_d (4 : Int32) q3))]) _
    refine XS.istore X1.here hx rfl (hb hby d1_5) rfl (l' := #[vi p0, vi (4 : Int32), vi p2, vl q3, us, vi (own_d (4 : Int32) q3), uu]) rfl ?_
    show SS p e below T1 (mkF m 7 #[vi p0, vi (4 : Int32), vi p2, vl q3, us, vi (own_d (4 : Int32) q3), uu] []) _
    refine XS.iloadN X1.here hx rfl (hb hby d1_7) rfl ?_
    show SS p e below T1 (mkF m 8 #[vi p0, vi (4 : Int32), vi p2, vl q3, us, vi (own_d (4 : Int32) q3), uu] [(.int (4 : Int32))]) _
    refine XS.iloadN X1.here hx rfl (hb hby d1_8) rfl ?_
    exact kt
  by_cases hm : (4 : Int32) = p2
  · obtain ⟨fs, hr, hrun, hended, en1, en2, en3, en4⟩ := X1.leaveW hS0 (own_hk eh1 hk0) (v := some (.int (nar .char (own_d (4 : Int32) q3)))) (fun h => by rw [Bd.returns] at h; cases h)
    refine ⟨_, _, pre0 _ ?_, hrun, hended, _, _, rfl, ?_, own_chr (T := T1) hh eh1 (R0.trans (CHv.at X1 hZ (own_EW hw) hC0)), en1, en2, en3, en4.mono (by decide) (by decide)⟩
    · refine sg2 _ ?_
      show SS p e below T1 (mkF m 9 #[vi p0, vi (4 : Int32), vi p2, vl q3, us, vi (own_d (4 : Int32) q3), uu] [(.int p2), (.int (4 : Int32))]) _
      refine XS.icmpNo X1.here hx rfl (hb hby d1_9) rfl (teq (hm : (4 : Int32) = p2)).2 ?_
      show SS p e below T1 (mkF m 12 #[vi p0, vi (4 : Int32), vi p2, vl q3, us, vi (own_d (4 : Int32) q3), uu] []) _
      refine XS.iload X1.here hx rfl (hb hby d1_12) rfl ?_
      show SS p e below T1 (mkF m 14 #[vi p0, vi (4 : Int32), vi p2, vl q3, us, vi (own_d (4 : Int32) q3), uu] [(.int (own_d (4 : Int32) q3))]) _
      exact retN X1 hx (t := .char) Bd.returns (by simp) (hb hby d1_14) hr
    · show Q_rmP4 Z p0 p2 q3 zc fm h0 n0 _ T1.heap _
      rw [eh1]
      exact ⟨(nar .char (own_d (4 : Int32) q3)), rfl, N1, (Keep.refl h0 []), (own_nb (own_db _ _))⟩
  · obtain ⟨_, _, ⟨T3, Lw3, kw3, nw3⟩, -, X3', hS3', hg3, ⟨Lc3, hQ3, lq3, yq3, zq3, CH3⟩, st3⟩ := callSS X1 hx (y := (⟨"com/example/wireform/wireform/json/JsonIsReservedPinLaw", "templ", "(II)C"⟩ : MethodName)) hown (mvT hZ (wd hw 8 rfl)) (mvT hZ (wd hw 9 rfl)) (mvT hZ (wd hw 2 rfl)) (mvT hZ (wd hw 10 rfl)) (by decide) (backOfSH (W := 0) (rmT4 l Z a0 hw [] p0 zc fm h0 n0 Z0 uO uS uF uP uR) hZ (wd hw 10 rfl) (wd hw 2 rfl) (by decide) (by decide) (own_EW hw) hC0) (g := (mkF m 17 #[vi p0, vi (4 : Int32), vi p2, vl q3, us, vi (own_d (4 : Int32) q3), uu] [(.int (4 : Int32)), (.int p0)])) rfl (by rw [hml]; rfl) (argsL := [(.int p0), (.int (4 : Int32))]) (rest := []) (lenOf pd_3 rfl) rfl (by show 2 * 0 + _ ≤ _; exact Nat.le_of_eq rfl) (hb hby d1_17) (fun _ _ => ⟨rfl, eh1, (by decide : 0 + 2 ≤ _), (by decide : 0 + 24 ≤ _)⟩)
    dsimp only [Pt.U, Pt.locs, Pt.cells, Pt.slots] at X3' hS3' hg3 lq3 yq3 zq3 st3 hQ3 CH3
    have X3' := own_reb X3' lq3 yq3 zq3
    obtain ⟨X3, hS3, hZ3, hown3⟩ := rebS hS0 (own_hk eh1 hk0) X3' hS3' hg3 hZ hown
    obtain ⟨cv_3, rfl, Nq3, Kq3, f3_0⟩ := hQ3
    have N3 := Fr.app N1 Nq3
    have Re4 := R0.trans CH3
    have hCe4 := Re4.1
    have K3 : Keep h0 T3.heap [] := (Keep.refl h0 []).trans Kq3 all0
    have Z3 : n0 ≤ T3.heap.size := Nat.le_trans Z0 Kq3.1
    have hk3 : T3.heap.size ≤ T3.heap.size := Nat.le_refl _
    have sg5 : ∀ target, SS p e below T3 (mkF m 24 #[vi p0, vi (4 : Int32), vi p2, vl q3, us, vi (own_d (4 : Int32) q3), vi cv_3] [(.int cv_3)]) target → SS p e below T1 (mkF m 9 #[vi p0, vi (4 : Int32), vi p2, vl q3, us, vi (own_d (4 : Int32) q3), uu] [(.int p2), (.int (4 : Int32))]) target := by
      intro target kt
      show SS p e below T1 (mkF m 9 #[vi p0, vi (4 : Int32), vi p2, vl q3, us, vi (own_d (4 : Int32) q3), uu] [(.int p2), (.int (4 : Int32))]) _
      refine XS.icmpYes X1.here hx rfl (pc0 := 9) (pc' := 15) rfl (hb hby d1_9) rfl (feq (hm : ¬ ((4 : Int32) = p2))).2 (by decide) (by decide) ?_
      show SS p e below T1 (mkF m 15 #[vi p0, vi (4 : Int32), vi p2, vl q3, us, vi (own_d (4 : Int32) q3), uu] []) _
      refine XS.iloadN X1.here hx rfl (hb hby d1_15) rfl ?_
      show SS p e below T1 (mkF m 16 #[vi p0, vi (4 : Int32), vi p2, vl q3, us, vi (own_d (4 : Int32) q3), uu] [(.int p0)]) _
      refine XS.iloadN X1.here hx rfl (hb hby d1_16) rfl ?_
      show SS p e below T1 (mkF m 17 #[vi p0, vi (4 : Int32), vi p2, vl q3, us, vi (own_d (4 : Int32) q3), uu] [(.int (4 : Int32)), (.int p0)]) _
      refine st3.trans ?_
      show SS p e below T3 (mkF m 20 #[vi p0, vi (4 : Int32), vi p2, vl q3, us, vi (own_d (4 : Int32) q3), uu] [(.int cv_3)]) _
      refine XS.istore X3.here hx rfl (hb hby d1_20) rfl (l' := #[vi p0, vi (4 : Int32), vi p2, vl q3, us, vi (own_d (4 : Int32) q3), vi cv_3]) rfl ?_
      show SS p e below T3 (mkF m 22 #[vi p0, vi (4 : Int32), vi p2, vl q3, us, vi (own_d (4 : Int32) q3), vi cv_3] []) _
      refine XS.iload X3.here hx rfl (hb hby d1_22) rfl ?_
      exact kt
    by_cases ht : cv_3 = (0 : Int32)
    · obtain ⟨fs, hr, hrun, hended, en1, en2, en3, en4⟩ := X3.leaveW hS3 (own_hk rfl hk3) (v := some (.int (nar .char (own_d (4 : Int32) q3)))) (fun h => by rw [Bd.returns] at h; cases h)
      refine ⟨_, _, pre0 _ ?_, hrun, hended, _, _, rfl, ?_, own_chr (T := T3) hh rfl (Re4.trans (CHv.at X3 hZ3 (own_EW hw) hCe4)), en1, en2, en3, en4.mono (by decide) (by decide)⟩
      · refine sg2 _ ?_
        refine sg5 _ ?_
        show SS p e below T3 (mkF m 24 #[vi p0, vi (4 : Int32), vi p2, vl q3, us, vi (own_d (4 : Int32) q3), vi cv_3] [(.int cv_3)]) _
        refine XS.ifNo X3.here hx rfl (hb hby d1_24) rfl ((if0 _ _).trans (teq (ht : cv_3 = (0 : Int32))).2) ?_
        show SS p e below T3 (mkF m 27 #[vi p0, vi (4 : Int32), vi p2, vl q3, us, vi (own_d (4 : Int32) q3), vi cv_3] []) _
        refine XS.iload X3.here hx rfl (hb hby d1_27) rfl ?_
        show SS p e below T3 (mkF m 29 #[vi p0, vi (4 : Int32), vi p2, vl q3, us, vi (own_d (4 : Int32) q3), vi cv_3] [(.int (own_d (4 : Int32) q3))]) _
        refine XS.goto X3.here hx rfl (pc0 := 29) (pc' := 34) rfl (hb hby d1_29) (by decide) (by decide) ?_
        show SS p e below T3 (mkF m 34 #[vi p0, vi (4 : Int32), vi p2, vl q3, us, vi (own_d (4 : Int32) q3), vi cv_3] [(.int (own_d (4 : Int32) q3))]) _
        exact retN X3 hx (t := .char) Bd.returns (by simp) (hb hby d1_34) hr
      · show Q_rmP4 Z p0 p2 q3 zc fm h0 n0 _ T3.heap _
        exact ⟨(nar .char (own_d (4 : Int32) q3)), rfl, N3, K3, (own_nb (own_db _ _))⟩
    · obtain ⟨fs, hr, hrun, hended, en1, en2, en3, en4⟩ := X3.leaveW hS3 (own_hk rfl hk3) (v := some (.int (nar .char cv_3))) (fun h => by rw [Bd.returns] at h; cases h)
      refine ⟨_, _, pre0 _ ?_, hrun, hended, _, _, rfl, ?_, own_chr (T := T3) hh rfl (Re4.trans (CHv.at X3 hZ3 (own_EW hw) hCe4)), en1, en2, en3, en4.mono (by decide) (by decide)⟩
      · refine sg2 _ ?_
        refine sg5 _ ?_
        show SS p e below T3 (mkF m 24 #[vi p0, vi (4 : Int32), vi p2, vl q3, us, vi (own_d (4 : Int32) q3), vi cv_3] [(.int cv_3)]) _
        refine XS.ifYes X3.here hx rfl (pc0 := 24) (pc' := 32) rfl (hb hby d1_24) rfl ((if0 _ _).trans (feq (ht : ¬ (cv_3 = (0 : Int32)))).2) (by decide) (by decide) ?_
        show SS p e below T3 (mkF m 32 #[vi p0, vi (4 : Int32), vi p2, vl q3, us, vi (own_d (4 : Int32) q3), vi cv_3] []) _
        refine XS.iload X3.here hx rfl (hb hby d1_32) rfl ?_
        show SS p e below T3 (mkF m 34 #[vi p0, vi (4 : Int32), vi p2, vl q3, us, vi (own_d (4 : Int32) q3), vi cv_3] [(.int cv_3)]) _
        exact retN X3 hx (t := .char) Bd.returns (by simp) (hb hby d1_34) hr
      · show Q_rmP4 Z p0 p2 q3 zc fm h0 n0 _ T3.heap _
        exact ⟨(nar .char cv_3), rfl, N3, K3, (own_nb f3_0)⟩
theorem ef_11 (m : MethodId) (x0 : Int32) : entryFrame m #[(.int x0), (.int (5 : Int32))] 3 = mkF m 0 #[vi x0, vi (5 : Int32), uu] [] := by first | (simp [entryFrame, mkF, argsToLocals, Value.category]; done) | rfl
theorem d3_23 : decode method_4_code 23 = .ok (.iconst 0, 1) := by decide +kernel
def Q_rmT5 (Z : State) (p0 : Int32) (zc : Int32) (fm : Value) (h0 : Heap) (n0 : Nat) (v : Option Value) (h : Heap) (L : List Loc) : Prop := ∃ (cv : Int32), (v = some (.int cv) ∧ Fr n0 L ∧ Keep h0 h [] ∧ ¬ cv < 0 ∧ ¬ (255 : Int32) < cv)
set_option maxRecDepth 65536 in
set_option maxHeartbeats 40000000 in
theorem rmT5 (l : Launch) (Z : State) (a0 : Array Value) (hw : ∀ d ∈ tables_1, d.before a0 Z = true) (ws : List Jvm.Cond) (p0 : Int32) (zc : Int32) (fm : Value) (h0 : Heap) (n0 : Nat) (Z0 : n0 ≤ h0.size) (uO : Old Z n0 h0) (uS : Sta Z Z.heap "java/lang/String" "COMPACT_STRINGS" "Z" (.int zc)) (uF : Sta Z Z.heap "jdk/internal/util/Preconditions" "SIOOBE_FORMATTER" "Ljava/util/function/BiFunction;" fm) (uP : ¬ zc = 0) (uR : fm.isRef = true) :
    MetFree l (⟨"com/example/wireform/wireform/json/JsonIsReservedPinLaw", "templ", "(II)C"⟩ : MethodName) (head1 (Jvm.Cond.code (⟨"com/example/wireform/wireform/json/JsonIsReservedPinLaw", "templ", "(II)C"⟩ : MethodName) method_4_code 3 (some .char) :: ws) ({ frames := 2, cells := 2, slots := 24, locals := 26 } : Room)) (fun a U => a = #[(.int p0), (.int (5 : Int32))] ∧ Z.Warmed39 U.vm ∧ U.heap = h0 ∧ CHv Z own_EL U.vm h0) (fun _ _ _ _ _ => True) (fun _ U o U' => ∃ v L, o = .returned v ∧ Q_rmT5 Z p0 zc fm h0 n0 v U'.heap L ∧ CHr Z own_EL U.vm U.heap U'.vm U'.heap ∧ ReturnedEndW U o U' L ({ frames := 2, cells := 2, slots := 24, locals := 26 } : Room).cells ({ frames := 2, cells := 2, slots := 24, locals := 26 } : Room).slots) := by
  refine MetFree.of_bodySF (plainFor_of_name pn_0) hisR ?_
  intro p e s m args below meth c s₁ Bd hml0 hP hK
  obtain ⟨rfl, hZ, hh, hC0⟩ := hP
  have hx := Bd.exec
  have hby := Bd.bytes
  have hml : c.maxLocals = 3 := hml0
  have hown : s.vm.findClass "com/example/wireform/wireform/json/JsonIsReservedPinLaw" = some m.cls := findClass_of_methodNamed Bd.named
  have hnm := (name_of_methodNamed Bd.named Bd.method).1
  have X0 : Stand p l e ({ frames := 2, cells := 2, slots := 24, locals := 26 } : Room) (s.setVm s.vm) m #[(.int p0), (.int (5 : Int32))] below meth c s₁ [] 0 0 := Stand.of_body Bd
  have e0 : s₁.heap = h0 := by rw [← hh, Bd.state]; rfl
  have N0 := Fr.nil n0
  have pre0 : ∀ t, Steps p.tables e below (s₁.setTop (mkF m 0 #[vi p0, vi (5 : Int32), uu] [])) t → Steps p.tables e below (s₁.setTop (entryFrame m #[(.int p0), (.int (5 : Int32))] 3)) t := fun t k => castTop (ef_11 m p0) k
  have hS0 : s.Since s.vm 0 := (State.WarmedH.refl s).since _
  have hk0 : 0 ≤ h0.size := Nat.zero_le _
  have R0 := CHr.refl hC0
  by_cases hq_0 : p0 = (0 : Int32)
  · obtain ⟨b1, T1, h1, kk1, t1, kc1, X1, e1, E1, hS1, hk1, hZ1, hown1, fE1, fC1, fV1, fK1, lta1, ltb1, CH1, -, SF1, st1⟩ := ldcCH X0 hx hZ hown (wd hw 11 rfl) (fun d hd => hw d (own_strAtoms d hd)) e0 hS0 hk0 (own_EW hw) (by decide) hC0 (vs := [(.int (64 : Int32)), (.int (116 : Int32)), (.int (121 : Int32)), (.int (112 : Int32)), (.int (101 : Int32))]) (z := (5 : Int32)) ⟨by decide, by decide⟩ (by decide) (by decide) (g := (mkF m 4 #[vi p0, vi (5 : Int32), uu] [])) rfl (hb hby d3_4) (n := 20) (by decide) (by decide) (by decide) (by decide)
    have Re2 := R0.trans CH1
    have hCe2 := Re2.1
    have K1 : Keep h0 h1 [] := (Keep.refl h0 []).ext E1
    have Z1 : n0 ≤ h1.size := Nat.le_trans Z0 E1.1
    have c4 := (uO.ext E1)
    obtain ⟨cq3, kq3, q3a, q3b, q3c⟩ := isOf hZ1 e1 fE1
    obtain ⟨_, _, ⟨T3, Lw3, kw3, nw3⟩, -, X3, ⟨Lc3, hQ3, lq3, yq3, zq3⟩, st3⟩ := X1.virtualBack hx (y := (⟨"java/lang/String", "length", "()I"⟩ : MethodName)) (z := (⟨"java/lang/String", "length", "()I"⟩ : MethodName)) hown1 (mvT hZ1 (wd hw 19 rfl)) (mvT hZ1 (wd hw 20 rfl)) (notFace_of_selects (args := #[]) (mvT hZ1 (wd hw 22 rfl))) (mvT hZ1 (wd hw 22 rfl)) (mvT hZ1 (wd hw 21 rfl)) (by decide) (StrChars.Road.lenW (W := 1) hZ1 (fun d hd => hw d (own_w_wordsLen d hd)) (kI := 4) (wd hw 13 rfl) fE1 fV1 fC1 fK1 (StrChars.Road.codOf (cs := ([64, 116, 121, 112, 101] : List Int32)) (n := 5) rfl (fun c hc => (own_hp0 c hc).2)) (own_up own_hp0) (uS.ext c4.2) uP (Nat.le_of_ble_eq_true rfl) (by decide) (by decide)) q3a q3c (g := (mkF m 9 #[vi p0, vi (5 : Int32), vr b1] [(.ref b1), (.int (5 : Int32))])) rfl (by rw [hml]; rfl) (Steps.refl _) (argsL := []) (rest := [(.int (5 : Int32))]) (lenOf pd_0 rfl) rfl (by show 2 * 0 + _ ≤ _; exact Nat.le_of_eq rfl) (hb hby d3_9) (fun _ _ => ⟨rfl, e1, (by decide : 2 + 0 ≤ _), (by decide : 24 + 0 ≤ _)⟩)
    dsimp only [Pt.U, Pt.locs, Pt.cells, Pt.slots] at X3 lq3 yq3 zq3 st3 hQ3
    have X3 := own_reb X3 lq3 yq3 zq3
    obtain ⟨rfl, rfl, eh3⟩ := hQ3
    have N3 := Fr.app N0 (Fr.nil n0)
    obtain ⟨fs, hr, hrun, hended, en1, en2, en3, en4⟩ := X3.leaveW hS1 (own_hk eh3 hk1) (v := some (.int (nar .char (0 : Int32)))) (fun h => by rw [Bd.returns] at h; cases h)
    refine ⟨_, _, pre0 _ ?_, hrun, hended, _, _, rfl, ?_, own_chr (T := T3) hh eh3 (Re2.trans (CHv.at X3 hZ1 (own_EW hw) hCe2)), en1, en2, en3, en4.mono (by decide) (by decide)⟩
    · show SS p e below s₁ (mkF m 0 #[vi p0, vi (5 : Int32), uu] []) _
      refine XS.iloadN X0.here hx rfl (hb hby d3_0) rfl ?_
      show SS p e below s₁ (mkF m 1 #[vi p0, vi (5 : Int32), uu] [(.int p0)]) _
      refine XS.ifNo X0.here hx rfl (hb hby d3_1) rfl ((if0 _ _).trans (teq (hq_0 : p0 = (0 : Int32))).2) ?_
      show SS p e below s₁ (mkF m 4 #[vi p0, vi (5 : Int32), uu] []) _
      refine st1 _ ?_
      show SS p e below T1 (mkF m 6 #[vi p0, vi (5 : Int32), uu] [(.ref b1)]) _
      refine XS.astoreN X1.here hx rfl (hb hby d3_6) rfl rfl (l' := #[vi p0, vi (5 : Int32), vr b1]) rfl ?_
      show SS p e below T1 (mkF m 7 #[vi p0, vi (5 : Int32), vr b1] []) _
      refine XS.iloadN X1.here hx rfl (hb hby d3_7) rfl ?_
      show SS p e below T1 (mkF m 8 #[vi p0, vi (5 : Int32), vr b1] [(.int (5 : Int32))]) _
      refine XS.aloadN X1.here hx rfl (hb hby d3_8) rfl rfl ?_
      show SS p e below T1 (mkF m 9 #[vi p0, vi (5 : Int32), vr b1] [(.ref b1), (.int (5 : Int32))]) _
      refine st3.trans ?_
      show SS p e below T3 (mkF m 12 #[vi p0, vi (5 : Int32), vr b1] [(.int (5 : Int32)), (.int (5 : Int32))]) _
      refine XS.icmpYes X3.here hx rfl (pc0 := 12) (pc' := 23) rfl (hb hby d3_12) rfl (flt (by decide : ¬ ((5 : Int32) < (5 : Int32)))).2.1 (by decide) (by decide) ?_
      show SS p e below T3 (mkF m 23 #[vi p0, vi (5 : Int32), vr b1] []) _
      refine XS.iconst X3.here hx rfl (hb hby d3_23) ?_
      show SS p e below T3 (mkF m 24 #[vi p0, vi (5 : Int32), vr b1] [(.int (0 : Int32))]) _
      exact retN X3 hx (t := .char) Bd.returns (by simp) (hb hby d3_24) hr
    · show Q_rmT5 Z p0 zc fm h0 n0 _ T3.heap _
      rw [eh3]
      exact ⟨(nar .char (0 : Int32)), rfl, N3, K1, (by decide)⟩
  · have sg5 : ∀ target, SS p e below s₁ (mkF m 27 #[vi p0, vi (5 : Int32), uu] [(.int (1 : Int32)), (.int p0)]) target → SS p e below s₁ (mkF m 0 #[vi p0, vi (5 : Int32), uu] []) target := by
      intro target kt
      show SS p e below s₁ (mkF m 0 #[vi p0, vi (5 : Int32), uu] []) _
      refine XS.iloadN X0.here hx rfl (hb hby d3_0) rfl ?_
      show SS p e below s₁ (mkF m 1 #[vi p0, vi (5 : Int32), uu] [(.int p0)]) _
      refine XS.ifYes X0.here hx rfl (pc0 := 1) (pc' := 25) rfl (hb hby d3_1) rfl ((if0 _ _).trans (feq (hq_0 : ¬ (p0 = (0 : Int32)))).2) (by decide) (by decide) ?_
      show SS p e below s₁ (mkF m 25 #[vi p0, vi (5 : Int32), uu] []) _
      refine XS.iloadN X0.here hx rfl (hb hby d3_25) rfl ?_
      show SS p e below s₁ (mkF m 26 #[vi p0, vi (5 : Int32), uu] [(.int p0)]) _
      refine XS.iconst X0.here hx rfl (hb hby d3_26) ?_
      exact kt
    by_cases hq_1 : p0 = (1 : Int32)
    · obtain ⟨b6, T6, h6, kk6, t6, kc6, X6, e6, E6, hS6, hk6, hZ6, hown6, fE6, fC6, fV6, fK6, lta6, ltb6, CH6, -, SF6, st6⟩ := ldcCH X0 hx hZ hown (wd hw 96 rfl) (fun d hd => hw d (own_strAtoms d hd)) e0 hS0 hk0 (own_EW hw) (by decide) hC0 (vs := [(.int (64 : Int32)), (.int (105 : Int32)), (.int (100 : Int32))]) (z := (3 : Int32)) ⟨by decide, by decide⟩ (by decide) (by decide) (g := (mkF m 30 #[vi p0, vi (5 : Int32), uu] [])) rfl (hb hby d3_30) (n := 12) (by decide) (by decide) (by decide) (by decide)
      have Re7 := R0.trans CH6
      have hCe7 := Re7.1
      have K6 : Keep h0 h6 [] := (Keep.refl h0 []).ext E6
      have Z6 : n0 ≤ h6.size := Nat.le_trans Z0 E6.1
      have c9 := (uO.ext E6)
      obtain ⟨cq8, kq8, q8a, q8b, q8c⟩ := isOf hZ6 e6 fE6
      obtain ⟨_, _, ⟨T8, Lw8, kw8, nw8⟩, -, X8, ⟨Lc8, hQ8, lq8, yq8, zq8⟩, st8⟩ := X6.virtualBack hx (y := (⟨"java/lang/String", "length", "()I"⟩ : MethodName)) (z := (⟨"java/lang/String", "length", "()I"⟩ : MethodName)) hown6 (mvT hZ6 (wd hw 19 rfl)) (mvT hZ6 (wd hw 20 rfl)) (notFace_of_selects (args := #[]) (mvT hZ6 (wd hw 22 rfl))) (mvT hZ6 (wd hw 22 rfl)) (mvT hZ6 (wd hw 21 rfl)) (by decide) (StrChars.Road.lenW (W := 1) hZ6 (fun d hd => hw d (own_w_wordsLen d hd)) (kI := 4) (wd hw 13 rfl) fE6 fV6 fC6 fK6 (StrChars.Road.codOf (cs := ([64, 105, 100] : List Int32)) (n := 3) rfl (fun c hc => (own_hp1 c hc).2)) (own_up own_hp1) (uS.ext c9.2) uP (Nat.le_of_ble_eq_true rfl) (by decide) (by decide)) q8a q8c (g := (mkF m 35 #[vi p0, vi (5 : Int32), vr b6] [(.ref b6), (.int (5 : Int32))])) rfl (by rw [hml]; rfl) (Steps.refl _) (argsL := []) (rest := [(.int (5 : Int32))]) (lenOf pd_0 rfl) rfl (by show 2 * 0 + _ ≤ _; exact Nat.le_of_eq rfl) (hb hby d3_35) (fun _ _ => ⟨rfl, e6, (by decide : 2 + 0 ≤ _), (by decide : 16 + 0 ≤ _)⟩)
      dsimp only [Pt.U, Pt.locs, Pt.cells, Pt.slots] at X8 lq8 yq8 zq8 st8 hQ8
      have X8 := own_reb X8 lq8 yq8 zq8
      obtain ⟨rfl, rfl, eh8⟩ := hQ8
      have N8 := Fr.app N0 (Fr.nil n0)
      obtain ⟨fs, hr, hrun, hended, en1, en2, en3, en4⟩ := X8.leaveW hS6 (own_hk eh8 hk6) (v := some (.int (nar .char (0 : Int32)))) (fun h => by rw [Bd.returns] at h; cases h)
      refine ⟨_, _, pre0 _ ?_, hrun, hended, _, _, rfl, ?_, own_chr (T := T8) hh eh8 (Re7.trans (CHv.at X8 hZ6 (own_EW hw) hCe7)), en1, en2, en3, en4.mono (by decide) (by decide)⟩
      · refine sg5 _ ?_
        show SS p e below s₁ (mkF m 27 #[vi p0, vi (5 : Int32), uu] [(.int (1 : Int32)), (.int p0)]) _
        refine XS.icmpNo X0.here hx rfl (hb hby d3_27) rfl (teq (hq_1 : p0 = (1 : Int32))).2 ?_
        show SS p e below s₁ (mkF m 30 #[vi p0, vi (5 : Int32), uu] []) _
        refine st6 _ ?_
        show SS p e below T6 (mkF m 32 #[vi p0, vi (5 : Int32), uu] [(.ref b6)]) _
        refine XS.astoreN X6.here hx rfl (hb hby d3_32) rfl rfl (l' := #[vi p0, vi (5 : Int32), vr b6]) rfl ?_
        show SS p e below T6 (mkF m 33 #[vi p0, vi (5 : Int32), vr b6] []) _
        refine XS.iloadN X6.here hx rfl (hb hby d3_33) rfl ?_
        show SS p e below T6 (mkF m 34 #[vi p0, vi (5 : Int32), vr b6] [(.int (5 : Int32))]) _
        refine XS.aloadN X6.here hx rfl (hb hby d3_34) rfl rfl ?_
        show SS p e below T6 (mkF m 35 #[vi p0, vi (5 : Int32), vr b6] [(.ref b6), (.int (5 : Int32))]) _
        refine st8.trans ?_
        show SS p e below T8 (mkF m 38 #[vi p0, vi (5 : Int32), vr b6] [(.int (3 : Int32)), (.int (5 : Int32))]) _
        refine XS.icmpYes X8.here hx rfl (pc0 := 38) (pc' := 49) rfl (hb hby d3_38) rfl (flt (by decide : ¬ ((5 : Int32) < (3 : Int32)))).2.1 (by decide) (by decide) ?_
        show SS p e below T8 (mkF m 49 #[vi p0, vi (5 : Int32), vr b6] []) _
        refine XS.iconst X8.here hx rfl (hb hby d3_49) ?_
        show SS p e below T8 (mkF m 50 #[vi p0, vi (5 : Int32), vr b6] [(.int (0 : Int32))]) _
        exact retN X8 hx (t := .char) Bd.returns (by simp) (hb hby d3_50) hr
      · show Q_rmT5 Z p0 zc fm h0 n0 _ T8.heap _
        rw [eh8]
        exact ⟨(nar .char (0 : Int32)), rfl, N8, K6, (by decide)⟩
    · have sg10 : ∀ target, SS p e below s₁ (mkF m 53 #[vi p0, vi (5 : Int32), uu] [(.int (2 : Int32)), (.int p0)]) target → SS p e below s₁ (mkF m 27 #[vi p0, vi (5 : Int32), uu] [(.int (1 : Int32)), (.int p0)]) target := by
        intro target kt
        show SS p e below s₁ (mkF m 27 #[vi p0, vi (5 : Int32), uu] [(.int (1 : Int32)), (.int p0)]) _
        refine XS.icmpYes X0.here hx rfl (pc0 := 27) (pc' := 51) rfl (hb hby d3_27) rfl (feq (hq_1 : ¬ (p0 = (1 : Int32)))).2 (by decide) (by decide) ?_
        show SS p e below s₁ (mkF m 51 #[vi p0, vi (5 : Int32), uu] []) _
        refine XS.iloadN X0.here hx rfl (hb hby d3_51) rfl ?_
        show SS p e below s₁ (mkF m 52 #[vi p0, vi (5 : Int32), uu] [(.int p0)]) _
        refine XS.iconst X0.here hx rfl (hb hby d3_52) ?_
        exact kt
      by_cases hq_2 : p0 = (2 : Int32)
      · obtain ⟨b11, T11, h11, kk11, t11, kc11, X11, e11, E11, hS11, hk11, hZ11, hown11, fE11, fC11, fV11, fK11, lta11, ltb11, CH11, -, SF11, st11⟩ := ldcCH X0 hx hZ hown (wd hw 97 rfl) (fun d hd => hw d (own_strAtoms d hd)) e0 hS0 hk0 (own_EW hw) (by decide) hC0 (vs := [(.int (64 : Int32)), (.int (114 : Int32)), (.int (101 : Int32)), (.int (102 : Int32))]) (z := (4 : Int32)) ⟨by decide, by decide⟩ (by decide) (by decide) (g := (mkF m 56 #[vi p0, vi (5 : Int32), uu] [])) rfl (hb hby d3_56) (n := 16) (by decide) (by decide) (by decide) (by decide)
        have Re12 := R0.trans CH11
        have hCe12 := Re12.1
        have K11 : Keep h0 h11 [] := (Keep.refl h0 []).ext E11
        have Z11 : n0 ≤ h11.size := Nat.le_trans Z0 E11.1
        have c14 := (uO.ext E11)
        obtain ⟨cq13, kq13, q13a, q13b, q13c⟩ := isOf hZ11 e11 fE11
        obtain ⟨_, _, ⟨T13, Lw13, kw13, nw13⟩, -, X13, ⟨Lc13, hQ13, lq13, yq13, zq13⟩, st13⟩ := X11.virtualBack hx (y := (⟨"java/lang/String", "length", "()I"⟩ : MethodName)) (z := (⟨"java/lang/String", "length", "()I"⟩ : MethodName)) hown11 (mvT hZ11 (wd hw 19 rfl)) (mvT hZ11 (wd hw 20 rfl)) (notFace_of_selects (args := #[]) (mvT hZ11 (wd hw 22 rfl))) (mvT hZ11 (wd hw 22 rfl)) (mvT hZ11 (wd hw 21 rfl)) (by decide) (StrChars.Road.lenW (W := 1) hZ11 (fun d hd => hw d (own_w_wordsLen d hd)) (kI := 4) (wd hw 13 rfl) fE11 fV11 fC11 fK11 (StrChars.Road.codOf (cs := ([64, 114, 101, 102] : List Int32)) (n := 4) rfl (fun c hc => (own_hp2 c hc).2)) (own_up own_hp2) (uS.ext c14.2) uP (Nat.le_of_ble_eq_true rfl) (by decide) (by decide)) q13a q13c (g := (mkF m 61 #[vi p0, vi (5 : Int32), vr b11] [(.ref b11), (.int (5 : Int32))])) rfl (by rw [hml]; rfl) (Steps.refl _) (argsL := []) (rest := [(.int (5 : Int32))]) (lenOf pd_0 rfl) rfl (by show 2 * 0 + _ ≤ _; exact Nat.le_of_eq rfl) (hb hby d3_61) (fun _ _ => ⟨rfl, e11, (by decide : 2 + 0 ≤ _), (by decide : 20 + 0 ≤ _)⟩)
        dsimp only [Pt.U, Pt.locs, Pt.cells, Pt.slots] at X13 lq13 yq13 zq13 st13 hQ13
        have X13 := own_reb X13 lq13 yq13 zq13
        obtain ⟨rfl, rfl, eh13⟩ := hQ13
        have N13 := Fr.app N0 (Fr.nil n0)
        obtain ⟨fs, hr, hrun, hended, en1, en2, en3, en4⟩ := X13.leaveW hS11 (own_hk eh13 hk11) (v := some (.int (nar .char (0 : Int32)))) (fun h => by rw [Bd.returns] at h; cases h)
        refine ⟨_, _, pre0 _ ?_, hrun, hended, _, _, rfl, ?_, own_chr (T := T13) hh eh13 (Re12.trans (CHv.at X13 hZ11 (own_EW hw) hCe12)), en1, en2, en3, en4.mono (by decide) (by decide)⟩
        · refine sg5 _ ?_
          refine sg10 _ ?_
          show SS p e below s₁ (mkF m 53 #[vi p0, vi (5 : Int32), uu] [(.int (2 : Int32)), (.int p0)]) _
          refine XS.icmpNo X0.here hx rfl (hb hby d3_53) rfl (teq (hq_2 : p0 = (2 : Int32))).2 ?_
          show SS p e below s₁ (mkF m 56 #[vi p0, vi (5 : Int32), uu] []) _
          refine st11 _ ?_
          show SS p e below T11 (mkF m 58 #[vi p0, vi (5 : Int32), uu] [(.ref b11)]) _
          refine XS.astoreN X11.here hx rfl (hb hby d3_58) rfl rfl (l' := #[vi p0, vi (5 : Int32), vr b11]) rfl ?_
          show SS p e below T11 (mkF m 59 #[vi p0, vi (5 : Int32), vr b11] []) _
          refine XS.iloadN X11.here hx rfl (hb hby d3_59) rfl ?_
          show SS p e below T11 (mkF m 60 #[vi p0, vi (5 : Int32), vr b11] [(.int (5 : Int32))]) _
          refine XS.aloadN X11.here hx rfl (hb hby d3_60) rfl rfl ?_
          show SS p e below T11 (mkF m 61 #[vi p0, vi (5 : Int32), vr b11] [(.ref b11), (.int (5 : Int32))]) _
          refine st13.trans ?_
          show SS p e below T13 (mkF m 64 #[vi p0, vi (5 : Int32), vr b11] [(.int (4 : Int32)), (.int (5 : Int32))]) _
          refine XS.icmpYes X13.here hx rfl (pc0 := 64) (pc' := 75) rfl (hb hby d3_64) rfl (flt (by decide : ¬ ((5 : Int32) < (4 : Int32)))).2.1 (by decide) (by decide) ?_
          show SS p e below T13 (mkF m 75 #[vi p0, vi (5 : Int32), vr b11] []) _
          refine XS.iconst X13.here hx rfl (hb hby d3_75) ?_
          show SS p e below T13 (mkF m 76 #[vi p0, vi (5 : Int32), vr b11] [(.int (0 : Int32))]) _
          exact retN X13 hx (t := .char) Bd.returns (by simp) (hb hby d3_76) hr
        · show Q_rmT5 Z p0 zc fm h0 n0 _ T13.heap _
          rw [eh13]
          exact ⟨(nar .char (0 : Int32)), rfl, N13, K11, (by decide)⟩
      · obtain ⟨fs, hr, hrun, hended, en1, en2, en3, en4⟩ := X0.leaveW hS0 (own_hk e0 hk0) (v := some (.int (nar .char (0 : Int32)))) (fun h => by rw [Bd.returns] at h; cases h)
        refine ⟨_, _, pre0 _ ?_, hrun, hended, _, _, rfl, ?_, own_chr (T := s₁) hh e0 (R0.trans (CHv.at X0 hZ (own_EW hw) hC0)), en1, en2, en3, en4.mono (by decide) (by decide)⟩
        · refine sg5 _ ?_
          refine sg10 _ ?_
          show SS p e below s₁ (mkF m 53 #[vi p0, vi (5 : Int32), uu] [(.int (2 : Int32)), (.int p0)]) _
          refine XS.icmpYes X0.here hx rfl (pc0 := 53) (pc' := 77) rfl (hb hby d3_53) rfl (feq (hq_2 : ¬ (p0 = (2 : Int32)))).2 (by decide) (by decide) ?_
          show SS p e below s₁ (mkF m 77 #[vi p0, vi (5 : Int32), uu] []) _
          refine XS.iconst X0.here hx rfl (hb hby d3_77) ?_
          show SS p e below s₁ (mkF m 78 #[vi p0, vi (5 : Int32), uu] [(.int (0 : Int32))]) _
          exact retN X0 hx (t := .char) Bd.returns (by simp) (hb hby d3_78) hr
        · show Q_rmT5 Z p0 zc fm h0 n0 _ s₁.heap _
          rw [e0]
          exact ⟨(nar .char (0 : Int32)), rfl, N0, (Keep.refl h0 []), (by decide)⟩
theorem ef_12 (m : MethodId) (x0 : Int32) (x2 : Int32) (x3 : Int64) : entryFrame m #[(.int x0), (.int (5 : Int32)), (.int x2), (.long x3)] 7 = mkF m 0 #[vi x0, vi (5 : Int32), vi x2, vl x3, us, uu, uu] [] := by first | (simp [entryFrame, mkF, argsToLocals, Value.category]; done) | rfl
def Q_rmP5 (Z : State) (p0 : Int32) (p2 : Int32) (q3 : Int64) (zc : Int32) (fm : Value) (h0 : Heap) (n0 : Nat) (v : Option Value) (h : Heap) (L : List Loc) : Prop := ∃ (cv : Int32), (v = some (.int cv) ∧ Fr n0 L ∧ Keep h0 h [] ∧ ¬ cv < 0 ∧ ¬ (255 : Int32) < cv)
set_option maxRecDepth 65536 in
set_option maxHeartbeats 40000000 in
theorem rmP5 (l : Launch) (Z : State) (a0 : Array Value) (hw : ∀ d ∈ tables_1, d.before a0 Z = true) (ws : List Jvm.Cond) (p0 : Int32) (p2 : Int32) (q3 : Int64) (zc : Int32) (fm : Value) (h0 : Heap) (n0 : Nat) (Z0 : n0 ≤ h0.size) (uO : Old Z n0 h0) (uS : Sta Z Z.heap "java/lang/String" "COMPACT_STRINGS" "Z" (.int zc)) (uF : Sta Z Z.heap "jdk/internal/util/Preconditions" "SIOOBE_FORMATTER" "Ljava/util/function/BiFunction;" fm) (uP : ¬ zc = 0) (uR : fm.isRef = true) :
    MetFree l (⟨"com/example/wireform/wireform/json/JsonIsReservedPinLaw", "pick", "(IIIJ)C"⟩ : MethodName) (head1 (Jvm.Cond.code (⟨"com/example/wireform/wireform/json/JsonIsReservedPinLaw", "pick", "(IIIJ)C"⟩ : MethodName) method_5_code 7 (some .char) :: ws) ({ frames := 3, cells := 2, slots := 24, locals := 40 } : Room)) (fun a U => a = #[(.int p0), (.int (5 : Int32)), (.int p2), (.long q3)] ∧ Z.Warmed39 U.vm ∧ U.heap = h0 ∧ CHv Z own_EL U.vm h0) (fun _ _ _ _ _ => True) (fun _ U o U' => ∃ v L, o = .returned v ∧ Q_rmP5 Z p0 p2 q3 zc fm h0 n0 v U'.heap L ∧ CHr Z own_EL U.vm U.heap U'.vm U'.heap ∧ ReturnedEndW U o U' L ({ frames := 3, cells := 2, slots := 24, locals := 40 } : Room).cells ({ frames := 3, cells := 2, slots := 24, locals := 40 } : Room).slots) := by
  refine MetFree.of_bodySF (plainFor_of_name pn_0) hisR ?_
  intro p e s m args below meth c s₁ Bd hml0 hP hK
  obtain ⟨rfl, hZ, hh, hC0⟩ := hP
  have hx := Bd.exec
  have hby := Bd.bytes
  have hml : c.maxLocals = 7 := hml0
  have hown : s.vm.findClass "com/example/wireform/wireform/json/JsonIsReservedPinLaw" = some m.cls := findClass_of_methodNamed Bd.named
  have hnm := (name_of_methodNamed Bd.named Bd.method).1
  have X0 : Stand p l e ({ frames := 3, cells := 2, slots := 24, locals := 40 } : Room) (s.setVm s.vm) m #[(.int p0), (.int (5 : Int32)), (.int p2), (.long q3)] below meth c s₁ [] 0 0 := Stand.of_body Bd
  have e0 : s₁.heap = h0 := by rw [← hh, Bd.state]; rfl
  have N0 := Fr.nil n0
  have pre0 : ∀ t, Steps p.tables e below (s₁.setTop (mkF m 0 #[vi p0, vi (5 : Int32), vi p2, vl q3, us, uu, uu] [])) t → Steps p.tables e below (s₁.setTop (entryFrame m #[(.int p0), (.int (5 : Int32)), (.int p2), (.long q3)] 7)) t := fun t k => castTop (ef_12 m p0 p2 q3) k
  have hS0 : s.Since s.vm 0 := (State.WarmedH.refl s).since _
  have hk0 : 0 ≤ h0.size := Nat.zero_le _
  have R0 := CHr.refl hC0
  obtain ⟨_, _, ⟨T1, Lw1, kw1, nw1⟩, -, X1, ⟨Lc1, hQ1, lq1, yq1, zq1⟩, st1⟩ := Jvm.LawKit.callS X0 hx (y := (⟨"com/example/wireform/wireform/json/JsonIsReservedPinLaw", "drawn", "(IJ)C"⟩ : MethodName)) hown (mvT hZ (wd hw 4 rfl)) (mvT hZ (wd hw 5 rfl)) (mvT hZ (wd hw 2 rfl)) (mvT hZ (wd hw 6 rfl)) (by decide) (backOf (W := 0) (rmD l Z a0 hw [] (5 : Int32) q3 h0 n0 Z0) hZ (wd hw 6 rfl) (wd hw 2 rfl) (by decide) (by decide)) (g := (mkF m 2 #[vi p0, vi (5 : Int32), vi p2, vl q3, us, uu, uu] [(.long q3), (.int (5 : Int32))])) rfl (by rw [hml]; rfl) (argsL := [(.int (5 : Int32)), (.long q3)]) (rest := []) (lenOf pd_2 rfl) rfl (by show 2 * 0 + _ ≤ _; exact Nat.le_of_eq rfl) (hb hby d1_2) (fun _ _ => ⟨rfl, e0, (by decide : 0 + 0 ≤ _), (by decide : 0 + 0 ≤ _)⟩)
  dsimp only [Pt.U, Pt.locs, Pt.cells, Pt.slots] at X1 lq1 yq1 zq1 st1 hQ1
  have X1 := own_reb X1 lq1 yq1 zq1
  obtain ⟨rfl, Nq1, eh1⟩ := hQ1
  have N1 := Fr.app N0 Nq1
  have sg2 : ∀ target, SS p e below T1 (mkF m 9 #[vi p0, vi (5 : Int32), vi p2, vl q3, us, vi (own_d (5 : Int32) q3), uu] [(.int p2), (.int (5 : Int32))]) target → SS p e below s₁ (mkF m 0 #[vi p0, vi (5 : Int32), vi p2, vl q3, us, uu, uu] []) target := by
    intro target kt
    show SS p e below s₁ (mkF m 0 #[vi p0, vi (5 : Int32), vi p2, vl q3, us, uu, uu] []) _
    refine XS.iloadN X0.here hx rfl (hb hby d1_0) rfl ?_
    show SS p e below s₁ (mkF m 1 #[vi p0, vi (5 : Int32), vi p2, vl q3, us, uu, uu] [(.int (5 : Int32))]) _
    refine XS.lloadN X0.here hx rfl (hb hby d1_1) rfl ?_
    show SS p e below s₁ (mkF m 2 #[vi p0, vi (5 : Int32), vi p2, vl q3, us, uu, uu] [(.long q3), (.int (5 : Int32))]) _
    refine st1 _ ?_
    show SS p e below T1 (mkF m 5 #[vi p0, vi (5 : Int32), vi p2, vl q3, us, uu, uu] [(.int (own_d (5 : Int32) q3))]) _
    refine XS.istore X1.here hx rfl (hb hby d1_5) rfl (l' := #[vi p0, vi (5 : Int32), vi p2, vl q3, us, vi (own_d (5 : Int32) q3), uu]) rfl ?_
    show SS p e below T1 (mkF m 7 #[vi p0, vi (5 : Int32), vi p2, vl q3, us, vi (own_d (5 : Int32) q3), uu] []) _
    refine XS.iloadN X1.here hx rfl (hb hby d1_7) rfl ?_
    show SS p e below T1 (mkF m 8 #[vi p0, vi (5 : Int32), vi p2, vl q3, us, vi (own_d (5 : Int32) q3), uu] [(.int (5 : Int32))]) _
    refine XS.iloadN X1.here hx rfl (hb hby d1_8) rfl ?_
    exact kt
  by_cases hm : (5 : Int32) = p2
  · obtain ⟨fs, hr, hrun, hended, en1, en2, en3, en4⟩ := X1.leaveW hS0 (own_hk eh1 hk0) (v := some (.int (nar .char (own_d (5 : Int32) q3)))) (fun h => by rw [Bd.returns] at h; cases h)
    refine ⟨_, _, pre0 _ ?_, hrun, hended, _, _, rfl, ?_, own_chr (T := T1) hh eh1 (R0.trans (CHv.at X1 hZ (own_EW hw) hC0)), en1, en2, en3, en4.mono (by decide) (by decide)⟩
    · refine sg2 _ ?_
      show SS p e below T1 (mkF m 9 #[vi p0, vi (5 : Int32), vi p2, vl q3, us, vi (own_d (5 : Int32) q3), uu] [(.int p2), (.int (5 : Int32))]) _
      refine XS.icmpNo X1.here hx rfl (hb hby d1_9) rfl (teq (hm : (5 : Int32) = p2)).2 ?_
      show SS p e below T1 (mkF m 12 #[vi p0, vi (5 : Int32), vi p2, vl q3, us, vi (own_d (5 : Int32) q3), uu] []) _
      refine XS.iload X1.here hx rfl (hb hby d1_12) rfl ?_
      show SS p e below T1 (mkF m 14 #[vi p0, vi (5 : Int32), vi p2, vl q3, us, vi (own_d (5 : Int32) q3), uu] [(.int (own_d (5 : Int32) q3))]) _
      exact retN X1 hx (t := .char) Bd.returns (by simp) (hb hby d1_14) hr
    · show Q_rmP5 Z p0 p2 q3 zc fm h0 n0 _ T1.heap _
      rw [eh1]
      exact ⟨(nar .char (own_d (5 : Int32) q3)), rfl, N1, (Keep.refl h0 []), (own_nb (own_db _ _))⟩
  · obtain ⟨_, _, ⟨T3, Lw3, kw3, nw3⟩, -, X3', hS3', hg3, ⟨Lc3, hQ3, lq3, yq3, zq3, CH3⟩, st3⟩ := callSS X1 hx (y := (⟨"com/example/wireform/wireform/json/JsonIsReservedPinLaw", "templ", "(II)C"⟩ : MethodName)) hown (mvT hZ (wd hw 8 rfl)) (mvT hZ (wd hw 9 rfl)) (mvT hZ (wd hw 2 rfl)) (mvT hZ (wd hw 10 rfl)) (by decide) (backOfSH (W := 0) (rmT5 l Z a0 hw [] p0 zc fm h0 n0 Z0 uO uS uF uP uR) hZ (wd hw 10 rfl) (wd hw 2 rfl) (by decide) (by decide) (own_EW hw) hC0) (g := (mkF m 17 #[vi p0, vi (5 : Int32), vi p2, vl q3, us, vi (own_d (5 : Int32) q3), uu] [(.int (5 : Int32)), (.int p0)])) rfl (by rw [hml]; rfl) (argsL := [(.int p0), (.int (5 : Int32))]) (rest := []) (lenOf pd_3 rfl) rfl (by show 2 * 0 + _ ≤ _; exact Nat.le_of_eq rfl) (hb hby d1_17) (fun _ _ => ⟨rfl, eh1, (by decide : 0 + 2 ≤ _), (by decide : 0 + 24 ≤ _)⟩)
    dsimp only [Pt.U, Pt.locs, Pt.cells, Pt.slots] at X3' hS3' hg3 lq3 yq3 zq3 st3 hQ3 CH3
    have X3' := own_reb X3' lq3 yq3 zq3
    obtain ⟨X3, hS3, hZ3, hown3⟩ := rebS hS0 (own_hk eh1 hk0) X3' hS3' hg3 hZ hown
    obtain ⟨cv_3, rfl, Nq3, Kq3, f3_0⟩ := hQ3
    have N3 := Fr.app N1 Nq3
    have Re4 := R0.trans CH3
    have hCe4 := Re4.1
    have K3 : Keep h0 T3.heap [] := (Keep.refl h0 []).trans Kq3 all0
    have Z3 : n0 ≤ T3.heap.size := Nat.le_trans Z0 Kq3.1
    have hk3 : T3.heap.size ≤ T3.heap.size := Nat.le_refl _
    have sg5 : ∀ target, SS p e below T3 (mkF m 24 #[vi p0, vi (5 : Int32), vi p2, vl q3, us, vi (own_d (5 : Int32) q3), vi cv_3] [(.int cv_3)]) target → SS p e below T1 (mkF m 9 #[vi p0, vi (5 : Int32), vi p2, vl q3, us, vi (own_d (5 : Int32) q3), uu] [(.int p2), (.int (5 : Int32))]) target := by
      intro target kt
      show SS p e below T1 (mkF m 9 #[vi p0, vi (5 : Int32), vi p2, vl q3, us, vi (own_d (5 : Int32) q3), uu] [(.int p2), (.int (5 : Int32))]) _
      refine XS.icmpYes X1.here hx rfl (pc0 := 9) (pc' := 15) rfl (hb hby d1_9) rfl (feq (hm : ¬ ((5 : Int32) = p2))).2 (by decide) (by decide) ?_
      show SS p e below T1 (mkF m 15 #[vi p0, vi (5 : Int32), vi p2, vl q3, us, vi (own_d (5 : Int32) q3), uu] []) _
      refine XS.iloadN X1.here hx rfl (hb hby d1_15) rfl ?_
      show SS p e below T1 (mkF m 16 #[vi p0, vi (5 : Int32), vi p2, vl q3, us, vi (own_d (5 : Int32) q3), uu] [(.int p0)]) _
      refine XS.iloadN X1.here hx rfl (hb hby d1_16) rfl ?_
      show SS p e below T1 (mkF m 17 #[vi p0, vi (5 : Int32), vi p2, vl q3, us, vi (own_d (5 : Int32) q3), uu] [(.int (5 : Int32)), (.int p0)]) _
      refine st3.trans ?_
      show SS p e below T3 (mkF m 20 #[vi p0, vi (5 : Int32), vi p2, vl q3, us, vi (own_d (5 : Int32) q3), uu] [(.int cv_3)]) _
      refine XS.istore X3.here hx rfl (hb hby d1_20) rfl (l' := #[vi p0, vi (5 : Int32), vi p2, vl q3, us, vi (own_d (5 : Int32) q3), vi cv_3]) rfl ?_
      show SS p e below T3 (mkF m 22 #[vi p0, vi (5 : Int32), vi p2, vl q3, us, vi (own_d (5 : Int32) q3), vi cv_3] []) _
      refine XS.iload X3.here hx rfl (hb hby d1_22) rfl ?_
      exact kt
    by_cases ht : cv_3 = (0 : Int32)
    · obtain ⟨fs, hr, hrun, hended, en1, en2, en3, en4⟩ := X3.leaveW hS3 (own_hk rfl hk3) (v := some (.int (nar .char (own_d (5 : Int32) q3)))) (fun h => by rw [Bd.returns] at h; cases h)
      refine ⟨_, _, pre0 _ ?_, hrun, hended, _, _, rfl, ?_, own_chr (T := T3) hh rfl (Re4.trans (CHv.at X3 hZ3 (own_EW hw) hCe4)), en1, en2, en3, en4.mono (by decide) (by decide)⟩
      · refine sg2 _ ?_
        refine sg5 _ ?_
        show SS p e below T3 (mkF m 24 #[vi p0, vi (5 : Int32), vi p2, vl q3, us, vi (own_d (5 : Int32) q3), vi cv_3] [(.int cv_3)]) _
        refine XS.ifNo X3.here hx rfl (hb hby d1_24) rfl ((if0 _ _).trans (teq (ht : cv_3 = (0 : Int32))).2) ?_
        show SS p e below T3 (mkF m 27 #[vi p0, vi (5 : Int32), vi p2, vl q3, us, vi (own_d (5 : Int32) q3), vi cv_3] []) _
        refine XS.iload X3.here hx rfl (hb hby d1_27) rfl ?_
        show SS p e below T3 (mkF m 29 #[vi p0, vi (5 : Int32), vi p2, vl q3, us, vi (own_d (5 : Int32) q3), vi cv_3] [(.int (own_d (5 : Int32) q3))]) _
        refine XS.goto X3.here hx rfl (pc0 := 29) (pc' := 34) rfl (hb hby d1_29) (by decide) (by decide) ?_
        show SS p e below T3 (mkF m 34 #[vi p0, vi (5 : Int32), vi p2, vl q3, us, vi (own_d (5 : Int32) q3), vi cv_3] [(.int (own_d (5 : Int32) q3))]) _
        exact retN X3 hx (t := .char) Bd.returns (by simp) (hb hby d1_34) hr
      · show Q_rmP5 Z p0 p2 q3 zc fm h0 n0 _ T3.heap _
        exact ⟨(nar .char (own_d (5 : Int32) q3)), rfl, N3, K3, (own_nb (own_db _ _))⟩
    · obtain ⟨fs, hr, hrun, hended, en1, en2, en3, en4⟩ := X3.leaveW hS3 (own_hk rfl hk3) (v := some (.int (nar .char cv_3))) (fun h => by rw [Bd.returns] at h; cases h)
      refine ⟨_, _, pre0 _ ?_, hrun, hended, _, _, rfl, ?_, own_chr (T := T3) hh rfl (Re4.trans (CHv.at X3 hZ3 (own_EW hw) hCe4)), en1, en2, en3, en4.mono (by decide) (by decide)⟩
      · refine sg2 _ ?_
        refine sg5 _ ?_
        show SS p e below T3 (mkF m 24 #[vi p0, vi (5 : Int32), vi p2, vl q3, us, vi (own_d (5 : Int32) q3), vi cv_3] [(.int cv_3)]) _
        refine XS.ifYes X3.here hx rfl (pc0 := 24) (pc' := 32) rfl (hb hby d1_24) rfl ((if0 _ _).trans (feq (ht : ¬ (cv_3 = (0 : Int32)))).2) (by decide) (by decide) ?_
        show SS p e below T3 (mkF m 32 #[vi p0, vi (5 : Int32), vi p2, vl q3, us, vi (own_d (5 : Int32) q3), vi cv_3] []) _
        refine XS.iload X3.here hx rfl (hb hby d1_32) rfl ?_
        show SS p e below T3 (mkF m 34 #[vi p0, vi (5 : Int32), vi p2, vl q3, us, vi (own_d (5 : Int32) q3), vi cv_3] [(.int cv_3)]) _
        exact retN X3 hx (t := .char) Bd.returns (by simp) (hb hby d1_34) hr
      · show Q_rmP5 Z p0 p2 q3 zc fm h0 n0 _ T3.heap _
        exact ⟨(nar .char cv_3), rfl, N3, K3, (own_nb f3_0)⟩
theorem ef_13 (m : MethodId) (x0 : Addr) (x1 : Addr) : entryFrame m #[(.ref x0), (.ref x1), (.int (0 : Int32)), (.int (0 : Int32)), .null] 6 = mkF m 0 #[vr x0, vr x1, vi (0 : Int32), vi (0 : Int32), .val .null, uu] [] := by first | (simp [entryFrame, mkF, argsToLocals, Value.category]; done) | rfl
theorem pn_1 : plainName "java/lang/String" = true := by first | (simp [plainName, overriddenIn]; done) | decide +kernel
theorem d13_0 : decode jdk_42_method_149_code 0 = .ok (.aload_n 0, 1) := by decide +kernel
theorem d13_1 : decode jdk_42_method_149_code 1 = .ok (.invokespecial 1, 3) := by decide +kernel
theorem d13_4 : decode jdk_42_method_149_code 4 = .ok (.iload_n 3, 1) := by decide +kernel
theorem d13_5 : decode jdk_42_method_149_code 5 = .ok (.ifCond .ne 22, 3) := by decide +kernel
theorem d13_8 : decode jdk_42_method_149_code 8 = .ok (.aload_n 0, 1) := by decide +kernel
theorem d13_9 : decode jdk_42_method_149_code 9 = .ok (.ldc 7, 2) := by decide +kernel
theorem d13_11 : decode jdk_42_method_149_code 11 = .ok (.getfield 9, 3) := by decide +kernel
theorem d13_14 : decode jdk_42_method_149_code 14 = .ok (.putfield 9, 3) := by decide +kernel
theorem d13_17 : decode jdk_42_method_149_code 17 = .ok (.aload_n 0, 1) := by decide +kernel
theorem d13_18 : decode jdk_42_method_149_code 18 = .ok (.ldc 7, 2) := by decide +kernel
theorem d13_20 : decode jdk_42_method_149_code 20 = .ok (.getfield 15, 3) := by decide +kernel
theorem d13_23 : decode jdk_42_method_149_code 23 = .ok (.putfield 15, 3) := by decide +kernel
theorem d13_26 : decode jdk_42_method_149_code 26 = .ok (.return_, 1) := by decide +kernel
def Q_rmS0 (Z : State) (r0 : Addr) (r1 : Addr) (h0 : Heap) (n0 : Nat) (v : Option Value) (h : Heap) (L : List Loc) : Prop := ∃ (nt : Addr), ∃ (nk : ClassId), (v = none ∧ Fr n0 L ∧ Keep h0 h [r0] ∧ Exa Z h r0 "java/lang/String" ∧ Fld Z h r0 "java/lang/String" "coder" "B" (.int (0 : Int32)) ∧ Fld Z h r0 "java/lang/String" "value" "[B" (.ref nt) ∧ Arv Z h nt nk .byte (0 : Int32) [] (.int (0 : Int32)))
set_option maxRecDepth 65536 in
set_option maxHeartbeats 40000000 in
theorem rmS0 (l : Launch) (Z : State) (a0 : Array Value) (hw : ∀ d ∈ tables_1, d.before a0 Z = true) (ws : List Jvm.Cond) (r0 : Addr) (r1 : Addr) (h0 : Heap) (n0 : Nat) (Z0 : n0 ≤ h0.size) (uE : Exa Z h0 r0 "java/lang/String") (uv : Fld Z h0 r0 "java/lang/String" "value" "[B" .null) (uc : Fld Z h0 r0 "java/lang/String" "coder" "B" (.int (0 : Int32))) (ug : n0 ≤ r0) :
    MetFree l (⟨"java/lang/String", "<init>", "([CIILjava/lang/Void;)V"⟩ : MethodName) (head1 (Jvm.Cond.code (⟨"java/lang/String", "<init>", "([CIILjava/lang/Void;)V"⟩ : MethodName) jdk_42_method_149_code 6 none :: ws) ({ frames := 1, cells := 4, slots := 8, locals := 12 } : Room)) (fun a U => a = #[(.ref r0), (.ref r1), (.int (0 : Int32)), (.int (0 : Int32)), .null] ∧ Z.Warmed39 U.vm ∧ U.heap = h0 ∧ CHv Z own_EL U.vm h0) (fun _ _ _ _ _ => True) (fun _ U o U' => ∃ v L, o = .returned v ∧ Q_rmS0 Z r0 r1 h0 n0 v U'.heap L ∧ CHr Z own_EL U.vm U.heap U'.vm U'.heap ∧ ReturnedEndW U o U' L ({ frames := 1, cells := 4, slots := 8, locals := 12 } : Room).cells ({ frames := 1, cells := 4, slots := 8, locals := 12 } : Room).slots) := by
  refine MetFree.of_bodySF (plainFor_of_name pn_1) hisR ?_
  intro p e s m args below meth c s₁ Bd hml0 hP hK
  obtain ⟨rfl, hZ, hh, hC0⟩ := hP
  have hx := Bd.exec
  have hby := Bd.bytes
  have hml : c.maxLocals = 6 := hml0
  have hown : s.vm.findClass "java/lang/String" = some m.cls := findClass_of_methodNamed Bd.named
  have hnm := (name_of_methodNamed Bd.named Bd.method).1
  have X0 : Stand p l e ({ frames := 1, cells := 4, slots := 8, locals := 12 } : Room) (s.setVm s.vm) m #[(.ref r0), (.ref r1), (.int (0 : Int32)), (.int (0 : Int32)), .null] below meth c s₁ [] 0 0 := Stand.of_body Bd
  have e0 : s₁.heap = h0 := by rw [← hh, Bd.state]; rfl
  have N0 := Fr.nil n0
  have pre0 : ∀ t, Steps p.tables e below (s₁.setTop (mkF m 0 #[vr r0, vr r1, vi (0 : Int32), vi (0 : Int32), .val .null, uu] [])) t → Steps p.tables e below (s₁.setTop (entryFrame m #[(.ref r0), (.ref r1), (.int (0 : Int32)), (.int (0 : Int32)), .null] 6)) t := fun t k => castTop (ef_13 m r0 r1) k
  have hS0 : s.Since s.vm 0 := (State.WarmedH.refl s).since _
  have hk0 : 0 ≤ h0.size := Nat.zero_le _
  have R0 := CHr.refl hC0
  obtain ⟨T1, X1, e1, st1⟩ := initO X0 hx hZ hown (wd hw 66 rfl) (wd hw 67 rfl) (wd hw 68 rfl) e0 (g := (mkF m 1 #[vr r0, vr r1, vi (0 : Int32), vi (0 : Int32), .val .null, uu] [(.ref r0)])) rfl (by rw [hml]; rfl) rfl (hb hby d13_1) (by decide) (W := 0) (by show 2 * 0 + _ ≤ _; exact Nat.le_of_eq rfl) (by decide)
  obtain ⟨b2, T2, h2, kk2, t2, kc2, X2, e2, E2, hS2, hk2, hZ2, hown2, fE2, fC2, fV2, fK2, lta2, ltb2, CH2, -, SF2, st2⟩ := ldcCH X1 hx hZ hown (wd hw 69 rfl) (fun d hd => hw d (own_strAtoms d hd)) e1 hS0 hk0 (own_EW hw) (by decide) hC0 (vs := []) (z := (0 : Int32)) ⟨by decide, by decide⟩ (by decide) (by decide) (g := (mkF m 9 #[vr r0, vr r1, vi (0 : Int32), vi (0 : Int32), .val .null, uu] [(.ref r0)])) rfl (hb hby d13_9) (n := 0) (by decide) (by decide) (by decide) (by decide)
  have Re3 := R0.trans CH2
  have hCe3 := Re3.1
  have c5 := (uE.ext E2)
  have c6 := (uv.ext E2)
  have sf4 := own_safeNull (EL := own_EL) hZ2.alike c5 c6
  have nlr0_2 := SF2 r0 sf4
  have K2 : Keep h0 h2 [r0] := (Keep.refl h0 [r0]).ext E2
  have Z2 : n0 ≤ h2.size := Nat.le_trans Z0 E2.1
  obtain ⟨T7, X7, e7, st7⟩ := getF X2 hx hZ2 hown2 (host := "") (Or.inl (wd hw 24 rfl)) Via.refl e2 fV2 (g := (mkF m 11 #[vr r0, vr r1, vi (0 : Int32), vi (0 : Int32), .val .null, uu] [(.ref b2), (.ref r0)])) rfl rfl (hb hby d13_11)
  obtain ⟨T8, h8, X8, e8, W8, st8⟩ := putF X7 hx hZ2 hown2 (host := "") (Or.inl (wd hw 24 rfl)) Via.refl e7 c6 c5 (Or.inr ⟨(wd hw 15 rfl), rfl, hnm⟩) (wd hw 13 rfl) (ty := (.array .byte)) (by decide) rfl rfl (g := (mkF m 14 #[vr r0, vr r1, vi (0 : Int32), vi (0 : Int32), .val .null, uu] [(.ref t2), (.ref r0)])) rfl rfl (hb hby d13_14)
  have Re9 := Re3.trans (CHr.wr W8 sf4 hCe3)
  have hCe9 := Re9.1
  have Fw8 := c6.same W8
  have N8 := Fr.snoc X8 N0 ug
  have K8 : Keep h0 h8 [r0] := K2.wr W8 (Or.inl (List.mem_of_getElem? (i := 0) rfl))
  have Z8 : n0 ≤ h8.size := by rw [W8.size]; exact Z2
  have hk8 := own_szW W8 hk2
  obtain ⟨b10, T10, h10, kk10, t10, kc10, X10, e10, E10, hS10, hk10, hZ10, hown10, fE10, fC10, fV10, fK10, lta10, ltb10, CH10, -, SF10, st10⟩ := ldcCH X8 hx hZ2 hown2 (wd hw 69 rfl) (fun d hd => hw d (own_strAtoms d hd)) e8 hS2 hk8 (own_EW hw) (by decide) hCe9 (vs := []) (z := (0 : Int32)) ⟨by decide, by decide⟩ (by decide) (by decide) (g := (mkF m 18 #[vr r0, vr r1, vi (0 : Int32), vi (0 : Int32), .val .null, uu] [(.ref r0)])) rfl (hb hby d13_18) (n := 0) (by decide) (by decide) (by decide) (by decide)
  have Re11 := Re9.trans CH10
  have hCe11 := Re11.1
  have c12 := (c5.wr W8)
  have c13 := (CHr.safe CH10 c12.lt (Safe.wr W8 sf4 hCe3 sf4))
  have nlr0_10 := SF10 r0 c13
  have K10 : Keep h0 h10 [r0] := K8.ext E10
  have Z10 : n0 ≤ h10.size := Nat.le_trans Z8 E10.1
  obtain ⟨T14, X14, e14, st14⟩ := getF X10 hx hZ10 hown10 (host := "") (Or.inl (wd hw 31 rfl)) Via.refl e10 fC10 (g := (mkF m 20 #[vr r0, vr r1, vi (0 : Int32), vi (0 : Int32), .val .null, uu] [(.ref b10), (.ref r0)])) rfl rfl (hb hby d13_20)
  have c16 := ((c5.wr W8).ext E10)
  have c17 := (((uc.ext E2).other W8 (Or.inr (slot_ne (Or.inr (wd hw 16 rfl)) (Or.inr (wd hw 15 rfl)) (by decide) (t := .byte) (t' := (.array .byte)) (by decide) (by decide)))).ext E10)
  obtain ⟨T15, h15, X15, e15, W15, st15⟩ := putFN X14 hx hZ10 hown10 (wd hw 31 rfl) Via.refl e14 c17 c16 (Or.inr ⟨(wd hw 16 rfl), rfl, hnm⟩) (wd hw 13 rfl) (ty := .byte) (v' := (.int (0 : Int32))) (by decide) rfl rfl (g := (mkF m 23 #[vr r0, vr r1, vi (0 : Int32), vi (0 : Int32), .val .null, uu] [(.int (0 : Int32)), (.ref r0)])) rfl rfl (hb hby d13_23)
  have Re18 := Re11.trans (CHr.wr W15 c13 hCe11)
  have hCe18 := Re18.1
  have Fw15 := c17.same W15
  have N15 := Fr.snoc X15 N8 ug
  have K15 : Keep h0 h15 [r0] := K10.wr W15 (Or.inl (List.mem_of_getElem? (i := 0) rfl))
  have Z15 : n0 ≤ h15.size := by rw [W15.size]; exact Z10
  have hk15 := own_szW W15 hk10
  have c19 := (c16.wr W15)
  have c20 := ((Fw8.ext E10).other W15 (Or.inr (slot_ne (Or.inr (wd hw 15 rfl)) (Or.inr (wd hw 16 rfl)) (by decide) (t := (.array .byte)) (t' := .byte) (by decide) (by decide))))
  have c21 := (((fK2.other W8 (Ne.symm nlr0_2.2)).ext E10).other W15 (Ne.symm nlr0_2.2))
  obtain ⟨fs, hr, hrun, hended, en1, en2, en3, en4⟩ := X15.leaveW hS10 (own_hk e15 hk15) (v := none) (fun _ => rfl)
  refine ⟨_, _, pre0 _ ?_, hrun, hended, _, _, rfl, ?_, own_chr (T := T15) hh e15 (Re18.trans (CHv.at X15 hZ10 (own_EW hw) hCe18)), en1, en2, en3, en4.mono (by decide) (by decide)⟩
  · show SS p e below s₁ (mkF m 0 #[vr r0, vr r1, vi (0 : Int32), vi (0 : Int32), .val .null, uu] []) _
    refine XS.aloadN X0.here hx rfl (hb hby d13_0) rfl rfl ?_
    show SS p e below s₁ (mkF m 1 #[vr r0, vr r1, vi (0 : Int32), vi (0 : Int32), .val .null, uu] [(.ref r0)]) _
    refine st1 _ ?_
    show SS p e below T1 (mkF m 4 #[vr r0, vr r1, vi (0 : Int32), vi (0 : Int32), .val .null, uu] []) _
    refine XS.iloadN X1.here hx rfl (hb hby d13_4) rfl ?_
    show SS p e below T1 (mkF m 5 #[vr r0, vr r1, vi (0 : Int32), vi (0 : Int32), .val .null, uu] [(.int (0 : Int32))]) _
    refine XS.ifNo X1.here hx rfl (hb hby d13_5) rfl ((if0 _ _).trans (teq (by decide : (0 : Int32) = (0 : Int32))).2) ?_
    show SS p e below T1 (mkF m 8 #[vr r0, vr r1, vi (0 : Int32), vi (0 : Int32), .val .null, uu] []) _
    refine XS.aloadN X1.here hx rfl (hb hby d13_8) rfl rfl ?_
    show SS p e below T1 (mkF m 9 #[vr r0, vr r1, vi (0 : Int32), vi (0 : Int32), .val .null, uu] [(.ref r0)]) _
    refine st2 _ ?_
    show SS p e below T2 (mkF m 11 #[vr r0, vr r1, vi (0 : Int32), vi (0 : Int32), .val .null, uu] [(.ref b2), (.ref r0)]) _
    refine st7 _ ?_
    show SS p e below T7 (mkF m 14 #[vr r0, vr r1, vi (0 : Int32), vi (0 : Int32), .val .null, uu] [(.ref t2), (.ref r0)]) _
    refine st8 _ ?_
    show SS p e below T8 (mkF m 17 #[vr r0, vr r1, vi (0 : Int32), vi (0 : Int32), .val .null, uu] []) _
    refine XS.aloadN X8.here hx rfl (hb hby d13_17) rfl rfl ?_
    show SS p e below T8 (mkF m 18 #[vr r0, vr r1, vi (0 : Int32), vi (0 : Int32), .val .null, uu] [(.ref r0)]) _
    refine st10 _ ?_
    show SS p e below T10 (mkF m 20 #[vr r0, vr r1, vi (0 : Int32), vi (0 : Int32), .val .null, uu] [(.ref b10), (.ref r0)]) _
    refine st14 _ ?_
    show SS p e below T14 (mkF m 23 #[vr r0, vr r1, vi (0 : Int32), vi (0 : Int32), .val .null, uu] [(.int (0 : Int32)), (.ref r0)]) _
    refine st15 _ ?_
    show SS p e below T15 (mkF m 26 #[vr r0, vr r1, vi (0 : Int32), vi (0 : Int32), .val .null, uu] []) _
    exact X15.returnOut hx Bd.returns (hb hby d13_26) hr
  · show Q_rmS0 Z r0 r1 h0 n0 _ T15.heap _
    rw [e15]
    exact ⟨t2, kc2, rfl, N15, K15, c19, Fw15, c20, c21⟩
theorem ef_14 (m : MethodId) (x0 : Addr) (x1 : Addr) : entryFrame m #[(.ref x0), (.ref x1)] 2 = mkF m 0 #[vr x0, vr x1] [] := by first | (simp [entryFrame, mkF, argsToLocals, Value.category]; done) | rfl
theorem d12_0 : decode jdk_42_method_3_code 0 = .ok (.aload_n 0, 1) := by decide +kernel
theorem d12_1 : decode jdk_42_method_3_code 1 = .ok (.aload_n 1, 1) := by decide +kernel
theorem d12_2 : decode jdk_42_method_3_code 2 = .ok (.iconst 0, 1) := by decide +kernel
theorem d12_3 : decode jdk_42_method_3_code 3 = .ok (.aload_n 1, 1) := by decide +kernel
theorem d12_4 : decode jdk_42_method_3_code 4 = .ok (.arraylength, 1) := by decide +kernel
theorem d12_5 : decode jdk_42_method_3_code 5 = .ok (.aconst_null, 1) := by decide +kernel
theorem d12_6 : decode jdk_42_method_3_code 6 = .ok (.invokespecial 27, 3) := by decide +kernel
theorem pd_4 : parseMethodDescriptor "([CIILjava/lang/Void;)V" = some ⟨[(.array .char), .int, .int, (.object "java/lang/Void")], none⟩ := by decide +kernel
theorem d12_9 : decode jdk_42_method_3_code 9 = .ok (.return_, 1) := by decide +kernel
def Q_rmS1 (Z : State) (r0 : Addr) (r1 : Addr) (kb : ClassId) (h0 : Heap) (n0 : Nat) (v : Option Value) (h : Heap) (L : List Loc) : Prop := ∃ (nt : Addr), ∃ (nk : ClassId), (v = none ∧ Fr n0 L ∧ Keep h0 h [r0] ∧ Exa Z h r0 "java/lang/String" ∧ Fld Z h r0 "java/lang/String" "coder" "B" (.int (0 : Int32)) ∧ Fld Z h r0 "java/lang/String" "value" "[B" (.ref nt) ∧ Arv Z h nt nk .byte (0 : Int32) [] (.int (0 : Int32)))
set_option maxRecDepth 65536 in
set_option maxHeartbeats 40000000 in
theorem rmS1 (l : Launch) (Z : State) (a0 : Array Value) (hw : ∀ d ∈ tables_1, d.before a0 Z = true) (ws : List Jvm.Cond) (r0 : Addr) (r1 : Addr) (kb : ClassId) (h0 : Heap) (n0 : Nat) (Z0 : n0 ≤ h0.size) (uE : Exa Z h0 r0 "java/lang/String") (uv : Fld Z h0 r0 "java/lang/String" "value" "[B" .null) (uc : Fld Z h0 r0 "java/lang/String" "coder" "B" (.int (0 : Int32))) (ug : n0 ≤ r0) (uV : Arv Z h0 r1 kb .char (0 : Int32) [] (.int (0 : Int32))) :
    MetFree l (⟨"java/lang/String", "<init>", "([C)V"⟩ : MethodName) (head1 (Jvm.Cond.code (⟨"java/lang/String", "<init>", "([C)V"⟩ : MethodName) jdk_42_method_3_code 2 none :: ws) ({ frames := 2, cells := 4, slots := 8, locals := 29 } : Room)) (fun a U => a = #[(.ref r0), (.ref r1)] ∧ Z.Warmed39 U.vm ∧ U.heap = h0 ∧ CHv Z own_EL U.vm h0) (fun _ _ _ _ _ => True) (fun _ U o U' => ∃ v L, o = .returned v ∧ Q_rmS1 Z r0 r1 kb h0 n0 v U'.heap L ∧ CHr Z own_EL U.vm U.heap U'.vm U'.heap ∧ ReturnedEndW U o U' L ({ frames := 2, cells := 4, slots := 8, locals := 29 } : Room).cells ({ frames := 2, cells := 4, slots := 8, locals := 29 } : Room).slots) := by
  refine MetFree.of_bodySF (plainFor_of_name pn_1) hisR ?_
  intro p e s m args below meth c s₁ Bd hml0 hP hK
  obtain ⟨rfl, hZ, hh, hC0⟩ := hP
  have hx := Bd.exec
  have hby := Bd.bytes
  have hml : c.maxLocals = 2 := hml0
  have hown : s.vm.findClass "java/lang/String" = some m.cls := findClass_of_methodNamed Bd.named
  have hnm := (name_of_methodNamed Bd.named Bd.method).1
  have X0 : Stand p l e ({ frames := 2, cells := 4, slots := 8, locals := 29 } : Room) (s.setVm s.vm) m #[(.ref r0), (.ref r1)] below meth c s₁ [] 0 0 := Stand.of_body Bd
  have e0 : s₁.heap = h0 := by rw [← hh, Bd.state]; rfl
  have N0 := Fr.nil n0
  have pre0 : ∀ t, Steps p.tables e below (s₁.setTop (mkF m 0 #[vr r0, vr r1] [])) t → Steps p.tables e below (s₁.setTop (entryFrame m #[(.ref r0), (.ref r1)] 2)) t := fun t k => castTop (ef_14 m r0 r1) k
  have hS0 : s.Since s.vm 0 := (State.WarmedH.refl s).since _
  have hk0 : 0 ≤ h0.size := Nat.zero_le _
  have R0 := CHr.refl hC0
  obtain ⟨cl1, Ar1, q1, S1, Nn1, H1, G1⟩ := (id uV)
  obtain ⟨_, _, ⟨T2, Lw2, kw2, nw2⟩, -, X2', hS2', hg2, ⟨Lc2, hQ2, lq2, yq2, zq2, CH2⟩, st2⟩ := X0.specialBackS hx (y := (⟨"java/lang/String", "<init>", "([CIILjava/lang/Void;)V"⟩ : MethodName)) rfl hown (mvT hZ (wd hw 62 rfl)) (mvT hZ (wd hw 63 rfl)) (mvT hZ (wd hw 65 rfl)) (by decide) (backOfSH (W := 0) (rmS0 l Z a0 hw [] r0 r1 h0 n0 Z0 uE uv uc ug) hZ (wd hw 65 rfl) (wd hw 12 rfl) (by decide) (by decide) (own_EW hw) hC0) (g := (mkF m 6 #[vr r0, vr r1] [.null, (.int (0 : Int32)), (.int (0 : Int32)), (.ref r1), (.ref r0)])) rfl (by rw [hml]; rfl) (Steps.refl _) (a := r0) (argsL := [(.ref r1), (.int (0 : Int32)), (.int (0 : Int32)), .null]) (rest := []) (lenOf pd_4 rfl) rfl (by show 2 * 0 + _ ≤ _; exact Nat.le_of_eq rfl) (hb hby d12_6) (fun _ _ => ⟨rfl, e0, (by decide : 0 + 4 ≤ _), (by decide : 0 + 8 ≤ _)⟩)
  dsimp only [Pt.U, Pt.locs, Pt.cells, Pt.slots] at X2' hS2' hg2 lq2 yq2 zq2 st2 hQ2 CH2
  have X2' := own_reb X2' lq2 yq2 zq2
  obtain ⟨X2, hS2, hZ2, hown2⟩ := rebS hS0 (own_hk e0 hk0) X2' hS2' hg2 hZ hown
  obtain ⟨nt_2, nk_2, rfl, Nq2, Kq2, f2_0, f2_1, f2_2, f2_3⟩ := hQ2
  have N2 := Fr.app N0 Nq2
  have Re3 := R0.trans CH2
  have hCe3 := Re3.1
  have K2 : Keep h0 T2.heap [r0] := (Keep.refl h0 [r0]).trans Kq2 (allS (Or.inl (List.mem_of_getElem? (i := 0) rfl)) all0)
  have Z2 : n0 ≤ T2.heap.size := Nat.le_trans Z0 Kq2.1
  have hk2 : T2.heap.size ≤ T2.heap.size := Nat.le_refl _
  obtain ⟨fs, hr, hrun, hended, en1, en2, en3, en4⟩ := X2.leaveW hS2 (own_hk rfl hk2) (v := none) (fun _ => rfl)
  refine ⟨_, _, pre0 _ ?_, hrun, hended, _, _, rfl, ?_, own_chr (T := T2) hh rfl (Re3.trans (CHv.at X2 hZ2 (own_EW hw) hCe3)), en1, en2, en3, en4.mono (by decide) (by decide)⟩
  · show SS p e below s₁ (mkF m 0 #[vr r0, vr r1] []) _
    refine XS.aloadN X0.here hx rfl (hb hby d12_0) rfl rfl ?_
    show SS p e below s₁ (mkF m 1 #[vr r0, vr r1] [(.ref r0)]) _
    refine XS.aloadN X0.here hx rfl (hb hby d12_1) rfl rfl ?_
    show SS p e below s₁ (mkF m 2 #[vr r0, vr r1] [(.ref r1), (.ref r0)]) _
    refine XS.iconst X0.here hx rfl (hb hby d12_2) ?_
    show SS p e below s₁ (mkF m 3 #[vr r0, vr r1] [(.int (0 : Int32)), (.ref r1), (.ref r0)]) _
    refine XS.aloadN X0.here hx rfl (hb hby d12_3) rfl rfl ?_
    show SS p e below s₁ (mkF m 4 #[vr r0, vr r1] [(.ref r1), (.int (0 : Int32)), (.ref r1), (.ref r0)]) _
    refine X0.arraylength hx (own_at e0 Ar1.1) (State.isArrayOf_alike hZ.alike Ar1.2.1) (g := (mkF m 4 #[vr r0, vr r1] [(.ref r1), (.int (0 : Int32)), (.ref r1), (.ref r0)])) rfl rfl (hb hby d12_4) _ ?_
    rw [len_of S1 Nn1]
    show SS p e below s₁ (mkF m 5 #[vr r0, vr r1] [(.int (0 : Int32)), (.int (0 : Int32)), (.ref r1), (.ref r0)]) _
    refine XS.aconstNull X0.here hx rfl (hb hby d12_5) ?_
    show SS p e below s₁ (mkF m 6 #[vr r0, vr r1] [.null, (.int (0 : Int32)), (.int (0 : Int32)), (.ref r1), (.ref r0)]) _
    refine st2.trans ?_
    show SS p e below T2 (mkF m 9 #[vr r0, vr r1] []) _
    exact X2.returnOut hx Bd.returns (hb hby d12_9) hr
  · show Q_rmS1 Z r0 r1 kb h0 n0 _ T2.heap _
    exact ⟨nt_2, nk_2, rfl, N2, K2, f2_0, f2_1, f2_2, f2_3⟩
theorem ef_15 (m : MethodId) (x1 : Int32) (x2 : Int32) (x3 : Int32) (x4 : Int32) (x5 : Int32) (x6 : Int32) : entryFrame m #[(.int (0 : Int32)), (.int x1), (.int x2), (.int x3), (.int x4), (.int x5), (.int x6)] 7 = mkF m 0 #[vi (0 : Int32), vi x1, vi x2, vi x3, vi x4, vi x5, vi x6] [] := by first | (simp [entryFrame, mkF, argsToLocals, Value.category]; done) | rfl
theorem d11_0 : decode method_6_code 0 = .ok (.iload_n 0, 1) := by decide +kernel
theorem d11_1 : decode method_6_code 1 = .ok (.ifCond .ne 14, 3) := by decide +kernel
theorem d11_4 : decode method_6_code 4 = .ok (.new 28, 3) := by decide +kernel
theorem d11_7 : decode method_6_code 7 = .ok (.dup, 1) := by decide +kernel
theorem d11_8 : decode method_6_code 8 = .ok (.iconst 0, 1) := by decide +kernel
theorem d11_9 : decode method_6_code 9 = .ok (.newarray .char, 2) := by decide +kernel
theorem d11_11 : decode method_6_code 11 = .ok (.invokespecial 49, 3) := by decide +kernel
theorem pd_5 : parseMethodDescriptor "([C)V" = some ⟨[(.array .char)], none⟩ := by decide +kernel
theorem d11_14 : decode method_6_code 14 = .ok (.areturn, 1) := by decide +kernel
def Q_rmM0 (Z : State) (p1 : Int32) (p2 : Int32) (p3 : Int32) (p4 : Int32) (p5 : Int32) (p6 : Int32) (zc : Int32) (fm : Value) (h0 : Heap) (n0 : Nat) (v : Option Value) (h : Heap) (L : List Loc) : Prop := ∃ (nx : Addr), ∃ (nt : Addr), ∃ (nk : ClassId), (v = some (.ref nx) ∧ Fr n0 L ∧ Keep h0 h [] ∧ Exa Z h nx "java/lang/String" ∧ Fld Z h nx "java/lang/String" "coder" "B" (.int (0 : Int32)) ∧ Fld Z h nx "java/lang/String" "value" "[B" (.ref nt) ∧ Arv Z h nt nk .byte (0 : Int32) ((([] : List Int32).map (fun c => c.toInt8.toInt32)).map Value.int) (.int (0 : Int32)))
set_option maxRecDepth 65536 in
set_option maxHeartbeats 40000000 in
theorem rmM0 (l : Launch) (Z : State) (a0 : Array Value) (hw : ∀ d ∈ tables_1, d.before a0 Z = true) (ws : List Jvm.Cond) (p1 : Int32) (p2 : Int32) (p3 : Int32) (p4 : Int32) (p5 : Int32) (p6 : Int32) (zc : Int32) (fm : Value) (h0 : Heap) (n0 : Nat) (Z0 : n0 ≤ h0.size) (uO : Old Z n0 h0) (uS : Sta Z Z.heap "java/lang/String" "COMPACT_STRINGS" "Z" (.int zc)) (uF : Sta Z Z.heap "jdk/internal/util/Preconditions" "SIOOBE_FORMATTER" "Ljava/util/function/BiFunction;" fm) (uP : ¬ zc = 0) (uR : fm.isRef = true) (ub_p1 : ¬ p1 < 0 ∧ ¬ (255 : Int32) < p1) (ub_p2 : ¬ p2 < 0 ∧ ¬ (255 : Int32) < p2) (ub_p3 : ¬ p3 < 0 ∧ ¬ (255 : Int32) < p3) (ub_p4 : ¬ p4 < 0 ∧ ¬ (255 : Int32) < p4) (ub_p5 : ¬ p5 < 0 ∧ ¬ (255 : Int32) < p5) (ub_p6 : ¬ p6 < 0 ∧ ¬ (255 : Int32) < p6) :
    MetFree l (⟨"com/example/wireform/wireform/json/JsonIsReservedPinLaw", "make", "(ICCCCCC)Ljava/lang/String;"⟩ : MethodName) (head1 (Jvm.Cond.code (⟨"com/example/wireform/wireform/json/JsonIsReservedPinLaw", "make", "(ICCCCCC)Ljava/lang/String;"⟩ : MethodName) method_6_code 7 (some (.object "java/lang/String")) :: ws) ({ frames := 3, cells := 6, slots := 12, locals := 43 } : Room)) (fun a U => a = #[(.int (0 : Int32)), (.int p1), (.int p2), (.int p3), (.int p4), (.int p5), (.int p6)] ∧ Z.Warmed39 U.vm ∧ U.heap = h0 ∧ CHv Z own_EL U.vm h0) (fun _ _ _ _ _ => True) (fun _ U o U' => ∃ v L, o = .returned v ∧ Q_rmM0 Z p1 p2 p3 p4 p5 p6 zc fm h0 n0 v U'.heap L ∧ CHr Z own_EL U.vm U.heap U'.vm U'.heap ∧ ReturnedEndW U o U' L ({ frames := 3, cells := 6, slots := 12, locals := 43 } : Room).cells ({ frames := 3, cells := 6, slots := 12, locals := 43 } : Room).slots) := by
  refine MetFree.of_bodySF (plainFor_of_name pn_0) hisR ?_
  intro p e s m args below meth c s₁ Bd hml0 hP hK
  obtain ⟨rfl, hZ, hh, hC0⟩ := hP
  have hx := Bd.exec
  have hby := Bd.bytes
  have hml : c.maxLocals = 7 := hml0
  have hown : s.vm.findClass "com/example/wireform/wireform/json/JsonIsReservedPinLaw" = some m.cls := findClass_of_methodNamed Bd.named
  have hnm := (name_of_methodNamed Bd.named Bd.method).1
  have X0 : Stand p l e ({ frames := 3, cells := 6, slots := 12, locals := 43 } : Room) (s.setVm s.vm) m #[(.int (0 : Int32)), (.int p1), (.int p2), (.int p3), (.int p4), (.int p5), (.int p6)] below meth c s₁ [] 0 0 := Stand.of_body Bd
  have e0 : s₁.heap = h0 := by rw [← hh, Bd.state]; rfl
  have N0 := Fr.nil n0
  have pre0 : ∀ t, Steps p.tables e below (s₁.setTop (mkF m 0 #[vi (0 : Int32), vi p1, vi p2, vi p3, vi p4, vi p5, vi p6] [])) t → Steps p.tables e below (s₁.setTop (entryFrame m #[(.int (0 : Int32)), (.int p1), (.int p2), (.int p3), (.int p4), (.int p5), (.int p6)] 7)) t := fun t k => castTop (ef_15 m p1 p2 p3 p4 p5 p6) k
  have hS0 : s.Since s.vm 0 := (State.WarmedH.refl s).since _
  have hk0 : 0 ≤ h0.size := Nat.zero_le _
  have R0 := CHr.refl hC0
  obtain ⟨T1, h1, X1, e1, E1, A1, D1, Un1, st1⟩ := newO X0 hx hZ hown (wd hw 57 rfl) (wd hw 13 rfl) (wd hw 12 rfl) e0 (g := (mkF m 4 #[vi (0 : Int32), vi p1, vi p2, vi p3, vi p4, vi p5, vi p6] [])) rfl (hb hby d11_4) (by decide) (by decide)
  obtain ⟨b1, g1⟩ : ∃ z, z = h0.size := ⟨_, rfl⟩
  rw [← g1] at A1 D1 Un1 st1
  have Re2 := R0.trans (CHr.ext E1 hC0)
  have hCe2 := Re2.1
  have sf1 := Safe.ext E1 hC0 (Safe.new (Nat.le_of_eq g1.symm))
  have F1_value : Fld Z h1 b1 "java/lang/String" "value" "[B" .null := D1 (Or.inr (wd hw 15 rfl)) (ty := (.array .byte)) (by decide)
  have F1_coder : Fld Z h1 b1 "java/lang/String" "coder" "B" (.int (0 : Int32)) := D1 (Or.inr (wd hw 16 rfl)) (ty := .byte) (by decide)
  have g_b1 : n0 ≤ b1 := Nat.le_trans Z0 (Nat.le_of_eq g1.symm)
  have sz_b1 : h0.size ≤ b1 := Nat.le_trans (Keep.refl h0 []).1 (Nat.le_of_eq g1.symm)
  have K1 : Keep h0 h1 [] := (Keep.refl h0 []).ext E1
  have Z1 : n0 ≤ h1.size := Nat.le_trans Z0 E1.1
  have hk1 : _ ≤ h1.size := Nat.le_trans hk0 E1.1
  obtain ⟨T3, h3, k3, X3, e3, E3, A3, AX3, st3⟩ := newPE X1 hx hZ (wd hw 58 rfl) e1 (g := (mkF m 9 #[vi (0 : Int32), vi p1, vi p2, vi p3, vi p4, vi p5, vi p6] [(.int (0 : Int32)), (.ref b1), (.ref b1)])) rfl (hb hby d11_9) rfl (by decide) (cap := 0) (by decide) (by decide) (by decide) (by decide) (ad := "[C") (by decide)
  obtain ⟨b3, g3⟩ : ∃ z, z = h1.size := ⟨_, rfl⟩
  rw [← g3] at A3 AX3 st3
  have ne_b1_b3 : b1 ≠ b3 := Nat.ne_of_lt (Nat.lt_of_lt_of_le A1.lt (Nat.le_of_eq g3.symm))
  have Re4 := Re2.trans (CHr.ext E3 hCe2)
  have hCe4 := Re4.1
  have V3 : Arv Z h3 b3 k3 .char (0 : Int32) [] (.int (0 : Int32)) := (Arv.new A3 (by decide))
  have g_b3 : n0 ≤ b3 := Nat.le_trans Z1 (Nat.le_of_eq g3.symm)
  have sz_b3 : h0.size ≤ b3 := Nat.le_trans K1.1 (Nat.le_of_eq g3.symm)
  have K3 : Keep h0 h3 [] := K1.ext E3
  have Z3 : n0 ≤ h3.size := Nat.le_trans Z1 E3.1
  have hk3 : _ ≤ h3.size := Nat.le_trans hk1 E3.1
  have c6 := (A1.ext E3)
  have c7 := (F1_value.ext E3)
  have c8 := (F1_coder.ext E3)
  obtain ⟨_, _, ⟨T5, Lw5, kw5, nw5⟩, -, X5', hS5', hg5, ⟨Lc5, hQ5, lq5, yq5, zq5, CH5⟩, st5⟩ := X3.specialBackS hx (y := (⟨"java/lang/String", "<init>", "([C)V"⟩ : MethodName)) rfl hown (mvT hZ (wd hw 59 rfl)) (mvT hZ (wd hw 60 rfl)) (mvT hZ (wd hw 61 rfl)) (by decide) (backOfSH (W := 1) (rmS1 l Z a0 hw [] b1 b3 k3 h3 n0 Z3 c6 c7 c8 g_b1 V3) hZ (wd hw 61 rfl) (wd hw 12 rfl) (by decide) (by decide) (own_EW hw) hCe4) (g := (mkF m 11 #[vi (0 : Int32), vi p1, vi p2, vi p3, vi p4, vi p5, vi p6] [(.ref b3), (.ref b1), (.ref b1)])) rfl (by rw [hml]; rfl) (Steps.refl _) (a := b1) (argsL := [(.ref b3)]) (rest := [(.ref b1)]) (lenOf pd_5 rfl) rfl (by show 2 * 0 + _ ≤ _; exact Nat.le_of_eq rfl) (hb hby d11_11) (fun _ _ => ⟨rfl, e3, (by decide : 2 + 4 ≤ _), (by decide : 4 + 8 ≤ _)⟩)
  dsimp only [Pt.U, Pt.locs, Pt.cells, Pt.slots] at X5' hS5' hg5 lq5 yq5 zq5 st5 hQ5 CH5
  have X5' := own_reb X5' lq5 yq5 zq5
  obtain ⟨X5, hS5, hZ5, hown5⟩ := rebS hS0 (own_hk e3 hk3) X5' hS5' hg5 hZ hown
  obtain ⟨nt_5, nk_5, rfl, Nq5, Kq5, f5_0, f5_1, f5_2, f5_3⟩ := hQ5
  have N5 := Fr.app N0 Nq5
  have Re9 := Re4.trans CH5
  have hCe9 := Re9.1
  have K5 : Keep h0 T5.heap [] := K3.trans Kq5 (allS (Or.inr sz_b1) all0)
  have Z5 : n0 ≤ T5.heap.size := Nat.le_trans Z3 Kq5.1
  have hk5 : T5.heap.size ≤ T5.heap.size := Nat.le_refl _
  obtain ⟨fs, hr, hrun, hended, en1, en2, en3, en4⟩ := X5.leaveW hS5 (own_hk rfl hk5) (v := some (.ref b1)) (fun h => by rw [Bd.returns] at h; cases h)
  refine ⟨_, _, pre0 _ ?_, hrun, hended, _, _, rfl, ?_, own_chr (T := T5) hh rfl (Re9.trans (CHv.at X5 hZ5 (own_EW hw) hCe9)), en1, en2, en3, en4.mono (by decide) (by decide)⟩
  · show SS p e below s₁ (mkF m 0 #[vi (0 : Int32), vi p1, vi p2, vi p3, vi p4, vi p5, vi p6] []) _
    refine XS.iloadN X0.here hx rfl (hb hby d11_0) rfl ?_
    show SS p e below s₁ (mkF m 1 #[vi (0 : Int32), vi p1, vi p2, vi p3, vi p4, vi p5, vi p6] [(.int (0 : Int32))]) _
    refine XS.ifNo X0.here hx rfl (hb hby d11_1) rfl ((if0 _ _).trans (teq (by decide : (0 : Int32) = (0 : Int32))).2) ?_
    show SS p e below s₁ (mkF m 4 #[vi (0 : Int32), vi p1, vi p2, vi p3, vi p4, vi p5, vi p6] []) _
    refine st1 _ ?_
    show SS p e below T1 (mkF m 7 #[vi (0 : Int32), vi p1, vi p2, vi p3, vi p4, vi p5, vi p6] [(.ref b1)]) _
    refine XS.dup X1.here hx rfl (hb hby d11_7) rfl rfl ?_
    show SS p e below T1 (mkF m 8 #[vi (0 : Int32), vi p1, vi p2, vi p3, vi p4, vi p5, vi p6] [(.ref b1), (.ref b1)]) _
    refine XS.iconst X1.here hx rfl (hb hby d11_8) ?_
    show SS p e below T1 (mkF m 9 #[vi (0 : Int32), vi p1, vi p2, vi p3, vi p4, vi p5, vi p6] [(.int (0 : Int32)), (.ref b1), (.ref b1)]) _
    refine st3 _ ?_
    show SS p e below T3 (mkF m 11 #[vi (0 : Int32), vi p1, vi p2, vi p3, vi p4, vi p5, vi p6] [(.ref b3), (.ref b1), (.ref b1)]) _
    refine st5.trans ?_
    show SS p e below T5 (mkF m 14 #[vi (0 : Int32), vi p1, vi p2, vi p3, vi p4, vi p5, vi p6] [(.ref b1)]) _
    exact retOut X5 hx Bd.returns rfl (Or.inr (Or.inr (Or.inr (Or.inr ⟨rfl, rfl, rfl⟩)))) (hb hby d11_14) hr
  · show Q_rmM0 Z p1 p2 p3 p4 p5 p6 zc fm h0 n0 _ T5.heap _
    exact ⟨b1, nt_5, nk_5, rfl, N5, K5, f5_0, f5_1, f5_2, f5_3⟩
theorem ef_16 (m : MethodId) (x1 : Int32) (x2 : Int32) (x3 : Int32) (x4 : Int32) (x5 : Int32) (x6 : Int32) : entryFrame m #[(.int (1 : Int32)), (.int x1), (.int x2), (.int x3), (.int x4), (.int x5), (.int x6)] 7 = mkF m 0 #[vi (1 : Int32), vi x1, vi x2, vi x3, vi x4, vi x5, vi x6] [] := by first | (simp [entryFrame, mkF, argsToLocals, Value.category]; done) | rfl
theorem d11_15 : decode method_6_code 15 = .ok (.iload_n 0, 1) := by decide +kernel
theorem d11_16 : decode method_6_code 16 = .ok (.iconst 1, 1) := by decide +kernel
theorem d11_17 : decode method_6_code 17 = .ok (.if_icmp .ne 18, 3) := by decide +kernel
theorem d11_20 : decode method_6_code 20 = .ok (.new 28, 3) := by decide +kernel
theorem d11_23 : decode method_6_code 23 = .ok (.dup, 1) := by decide +kernel
theorem d11_24 : decode method_6_code 24 = .ok (.iconst 1, 1) := by decide +kernel
theorem d11_25 : decode method_6_code 25 = .ok (.newarray .char, 2) := by decide +kernel
theorem d11_27 : decode method_6_code 27 = .ok (.dup, 1) := by decide +kernel
theorem d11_28 : decode method_6_code 28 = .ok (.iconst 0, 1) := by decide +kernel
theorem d11_29 : decode method_6_code 29 = .ok (.iload_n 1, 1) := by decide +kernel
theorem d11_30 : decode method_6_code 30 = .ok (.castore, 1) := by decide +kernel
theorem d11_31 : decode method_6_code 31 = .ok (.invokespecial 49, 3) := by decide +kernel
theorem own_w_words : ∀ d ∈ StrChars.Road.words, d ∈ tables_1 := by decide +kernel
theorem d11_34 : decode method_6_code 34 = .ok (.areturn, 1) := by decide +kernel
def Q_rmM1 (Z : State) (p1 : Int32) (p2 : Int32) (p3 : Int32) (p4 : Int32) (p5 : Int32) (p6 : Int32) (zc : Int32) (fm : Value) (h0 : Heap) (n0 : Nat) (v : Option Value) (h : Heap) (L : List Loc) : Prop := ∃ (nx : Addr), ∃ (nt : Addr), ∃ (nk : ClassId), (v = some (.ref nx) ∧ Fr n0 L ∧ Keep h0 h [] ∧ Exa Z h nx "java/lang/String" ∧ Fld Z h nx "java/lang/String" "coder" "B" (.int (0 : Int32)) ∧ Fld Z h nx "java/lang/String" "value" "[B" (.ref nt) ∧ Arv Z h nt nk .byte (1 : Int32) ((([p1] : List Int32).map (fun c => c.toInt8.toInt32)).map Value.int) (.int (0 : Int32)))
set_option maxRecDepth 65536 in
set_option maxHeartbeats 40000000 in
theorem rmM1 (l : Launch) (Z : State) (a0 : Array Value) (hw : ∀ d ∈ tables_1, d.before a0 Z = true) (ws : List Jvm.Cond) (p1 : Int32) (p2 : Int32) (p3 : Int32) (p4 : Int32) (p5 : Int32) (p6 : Int32) (zc : Int32) (fm : Value) (h0 : Heap) (n0 : Nat) (Z0 : n0 ≤ h0.size) (uO : Old Z n0 h0) (uS : Sta Z Z.heap "java/lang/String" "COMPACT_STRINGS" "Z" (.int zc)) (uF : Sta Z Z.heap "jdk/internal/util/Preconditions" "SIOOBE_FORMATTER" "Ljava/util/function/BiFunction;" fm) (uP : ¬ zc = 0) (uR : fm.isRef = true) (ub_p1 : ¬ p1 < 0 ∧ ¬ (255 : Int32) < p1) (ub_p2 : ¬ p2 < 0 ∧ ¬ (255 : Int32) < p2) (ub_p3 : ¬ p3 < 0 ∧ ¬ (255 : Int32) < p3) (ub_p4 : ¬ p4 < 0 ∧ ¬ (255 : Int32) < p4) (ub_p5 : ¬ p5 < 0 ∧ ¬ (255 : Int32) < p5) (ub_p6 : ¬ p6 < 0 ∧ ¬ (255 : Int32) < p6) :
    MetFree l (⟨"com/example/wireform/wireform/json/JsonIsReservedPinLaw", "make", "(ICCCCCC)Ljava/lang/String;"⟩ : MethodName) (head1 (Jvm.Cond.code (⟨"com/example/wireform/wireform/json/JsonIsReservedPinLaw", "make", "(ICCCCCC)Ljava/lang/String;"⟩ : MethodName) method_6_code 7 (some (.object "java/lang/String")) :: ws) ({ frames := 4, cells := 3, slots := 6, locals := 66 } : Room)) (fun a U => a = #[(.int (1 : Int32)), (.int p1), (.int p2), (.int p3), (.int p4), (.int p5), (.int p6)] ∧ Z.Warmed39 U.vm ∧ U.heap = h0 ∧ CHv Z own_EL U.vm h0) (fun _ _ _ _ _ => True) (fun _ U o U' => ∃ v L, o = .returned v ∧ Q_rmM1 Z p1 p2 p3 p4 p5 p6 zc fm h0 n0 v U'.heap L ∧ CHr Z own_EL U.vm U.heap U'.vm U'.heap ∧ ReturnedEndW U o U' L ({ frames := 4, cells := 3, slots := 6, locals := 66 } : Room).cells ({ frames := 4, cells := 3, slots := 6, locals := 66 } : Room).slots) := by
  refine MetFree.of_bodySF (plainFor_of_name pn_0) hisR ?_
  intro p e s m args below meth c s₁ Bd hml0 hP hK
  obtain ⟨rfl, hZ, hh, hC0⟩ := hP
  have hx := Bd.exec
  have hby := Bd.bytes
  have hml : c.maxLocals = 7 := hml0
  have hown : s.vm.findClass "com/example/wireform/wireform/json/JsonIsReservedPinLaw" = some m.cls := findClass_of_methodNamed Bd.named
  have hnm := (name_of_methodNamed Bd.named Bd.method).1
  have X0 : Stand p l e ({ frames := 4, cells := 3, slots := 6, locals := 66 } : Room) (s.setVm s.vm) m #[(.int (1 : Int32)), (.int p1), (.int p2), (.int p3), (.int p4), (.int p5), (.int p6)] below meth c s₁ [] 0 0 := Stand.of_body Bd
  have e0 : s₁.heap = h0 := by rw [← hh, Bd.state]; rfl
  have N0 := Fr.nil n0
  have pre0 : ∀ t, Steps p.tables e below (s₁.setTop (mkF m 0 #[vi (1 : Int32), vi p1, vi p2, vi p3, vi p4, vi p5, vi p6] [])) t → Steps p.tables e below (s₁.setTop (entryFrame m #[(.int (1 : Int32)), (.int p1), (.int p2), (.int p3), (.int p4), (.int p5), (.int p6)] 7)) t := fun t k => castTop (ef_16 m p1 p2 p3 p4 p5 p6) k
  have hS0 : s.Since s.vm 0 := (State.WarmedH.refl s).since _
  have hk0 : 0 ≤ h0.size := Nat.zero_le _
  have R0 := CHr.refl hC0
  have own_hp : ∀ c ∈ ([p1] : List Int32), ¬ c < 0 ∧ ¬ (255 : Int32) < c := by
    intro c hc
    simp only [List.mem_cons, List.not_mem_nil, or_false] at hc
    rcases hc with rfl
    · exact ub_p1
  obtain ⟨T1, h1, X1, e1, E1, A1, D1, Un1, st1⟩ := newO X0 hx hZ hown (wd hw 57 rfl) (wd hw 13 rfl) (wd hw 12 rfl) e0 (g := (mkF m 20 #[vi (1 : Int32), vi p1, vi p2, vi p3, vi p4, vi p5, vi p6] [])) rfl (hb hby d11_20) (by decide) (by decide)
  obtain ⟨b1, g1⟩ : ∃ z, z = h0.size := ⟨_, rfl⟩
  rw [← g1] at A1 D1 Un1 st1
  have Re2 := R0.trans (CHr.ext E1 hC0)
  have hCe2 := Re2.1
  have sf1 := Safe.ext E1 hC0 (Safe.new (Nat.le_of_eq g1.symm))
  have F1_value : Fld Z h1 b1 "java/lang/String" "value" "[B" .null := D1 (Or.inr (wd hw 15 rfl)) (ty := (.array .byte)) (by decide)
  have F1_coder : Fld Z h1 b1 "java/lang/String" "coder" "B" (.int (0 : Int32)) := D1 (Or.inr (wd hw 16 rfl)) (ty := .byte) (by decide)
  have g_b1 : n0 ≤ b1 := Nat.le_trans Z0 (Nat.le_of_eq g1.symm)
  have sz_b1 : h0.size ≤ b1 := Nat.le_trans (Keep.refl h0 []).1 (Nat.le_of_eq g1.symm)
  have K1 : Keep h0 h1 [] := (Keep.refl h0 []).ext E1
  have Z1 : n0 ≤ h1.size := Nat.le_trans Z0 E1.1
  have hk1 : _ ≤ h1.size := Nat.le_trans hk0 E1.1
  obtain ⟨T3, h3, k3, X3, e3, E3, A3, AX3, st3⟩ := newPE X1 hx hZ (wd hw 58 rfl) e1 (g := (mkF m 25 #[vi (1 : Int32), vi p1, vi p2, vi p3, vi p4, vi p5, vi p6] [(.int (1 : Int32)), (.ref b1), (.ref b1)])) rfl (hb hby d11_25) rfl (by decide) (cap := 1) (by decide) (by decide) (by decide) (by decide) (ad := "[C") (by decide)
  obtain ⟨b3, g3⟩ : ∃ z, z = h1.size := ⟨_, rfl⟩
  rw [← g3] at A3 AX3 st3
  have ne_b1_b3 : b1 ≠ b3 := Nat.ne_of_lt (Nat.lt_of_lt_of_le A1.lt (Nat.le_of_eq g3.symm))
  have Re4 := Re2.trans (CHr.ext E3 hCe2)
  have hCe4 := Re4.1
  have V3 : Arv Z h3 b3 k3 .char (1 : Int32) [(.int (0 : Int32))] (.int (0 : Int32)) := (Arv.new A3 (by decide)).pad (pad_rep [] (.int (0 : Int32)) 1)
  have g_b3 : n0 ≤ b3 := Nat.le_trans Z1 (Nat.le_of_eq g3.symm)
  have sz_b3 : h0.size ≤ b3 := Nat.le_trans K1.1 (Nat.le_of_eq g3.symm)
  have K3 : Keep h0 h3 [] := K1.ext E3
  have Z3 : n0 ≤ h3.size := Nat.le_trans Z1 E3.1
  have hk3 : _ ≤ h3.size := Nat.le_trans hk1 E3.1
  obtain ⟨cl5, Ar5, q5, S5, Nn5, H5, G5⟩ := (id V3)
  have hin5 : ¬ ((0 : Int32) < 0 ∨ cl5.slots.size ≤ ((0 : Int32)).toNatClampNeg) := inb_of S5 ⟨by decide, by decide⟩
  obtain ⟨T5, h5, X5, e5, W5, st5⟩ := stC X3 hx hZ e3 Ar5 (j := (0 : Int32)) hin5 (g := (mkF m 30 #[vi (1 : Int32), vi p1, vi p2, vi p3, vi p4, vi p5, vi p6] [(.int p1), (.int (0 : Int32)), (.ref b3), (.ref b3), (.ref b1), (.ref b1)])) rfl rfl (hb hby d11_30)
  have Re6 := Re4.trans (CHr.wr W5 (Safe.exa hZ.alike AX3 (by decide) (by decide)) hCe4)
  have hCe6 := Re6.1
  have V5 : Arv Z h5 b3 k3 .char (1 : Int32) [(.int (nar .char p1))] (.int (0 : Int32)) := Arv.set Ar5 q5 S5 Nn5 H5 G5 (fits_nar_char _) W5 0 rfl (Nat.le_of_ble_eq_true rfl)
  have Vn5 : Arv Z h5 b3 k3 .char (1 : Int32) [(.int p1)] (.int (0 : Int32)) := by have q := V5; rw [(own_ne ub_p1)] at q; exact q
  have N5 := Fr.snoc X5 N0 g_b3
  have K5 : Keep h0 h5 [] := K3.wr W5 (Or.inr sz_b3)
  have Z5 : n0 ≤ h5.size := by rw [W5.size]; exact Z3
  have hk5 := own_szW W5 hk3
  have c8 := ((A1.ext E3).wr W5)
  have c9 := ((F1_value.ext E3).other W5 (Or.inl ne_b1_b3))
  have c10 := ((F1_coder.ext E3).other W5 (Or.inl ne_b1_b3))
  have c11 := (((uO.ext E1).ext E3).wr W5 g_b3)
  obtain ⟨_, _, ⟨T7, Lw7, kw7, nw7⟩, -, X7, ⟨Lc7, hQ7, lq7, yq7, zq7⟩, st7⟩ := X5.specialBack hx (y := (⟨"java/lang/String", "<init>", "([C)V"⟩ : MethodName)) rfl hown (mvT hZ (wd hw 59 rfl)) (mvT hZ (wd hw 60 rfl)) (mvT hZ (wd hw 61 rfl)) (by decide) (StrChars.Road.backV (W := 1) hZ (fun d hd => hw d (own_w_words d hd)) (kI := 4) (wd hw 13 rfl) (cs := ([p1] : List Int32)) (bs := (([p1] : List Int32).map (fun c => c.toInt8.toInt32))) (n := 1) g_b1 Z5 c8 c9 c10 Vn5 (uS.ext c11.2) uP rfl rfl (by decide) (by decide) own_hp rfl (by decide) (by decide)) (g := (mkF m 31 #[vi (1 : Int32), vi p1, vi p2, vi p3, vi p4, vi p5, vi p6] [(.ref b3), (.ref b1), (.ref b1)])) rfl (by rw [hml]; rfl) (Steps.refl _) (a := b1) (argsL := [(.ref b3)]) (rest := [(.ref b1)]) (lenOf pd_5 rfl) rfl (by show 2 * 0 + _ ≤ _; exact Nat.le_of_eq rfl) (hb hby d11_31) (fun _ _ => ⟨rfl, e5, (by decide : 2 + 1 ≤ _), (by decide : 5 + 1 ≤ _)⟩)
  dsimp only [Pt.U, Pt.locs, Pt.cells, Pt.slots] at X7 lq7 yq7 zq7 st7 hQ7
  have X7 := own_reb X7 lq7 yq7 zq7
  obtain ⟨rfl, Nq7, Kq7, fE7, fC7, t7, kt7, u17, u27, u37, fV7, fK7⟩ := hQ7
  have N7 := Fr.app N5 Nq7
  have ne_b1_t7 : b1 ≠ t7 := Nat.ne_of_lt (Nat.lt_of_lt_of_le c8.lt u27)
  have ne_b3_t7 : b3 ≠ t7 := Nat.ne_of_lt (Nat.lt_of_lt_of_le Vn5.lt u27)
  have sz_t7 : h0.size ≤ t7 := Nat.le_trans K5.1 u27
  have c12 := (Safe.wr W5 (Safe.exa hZ.alike AX3 (by decide) (by decide)) hCe4 (Safe.ext E3 hCe2 sf1))
  have Re13 := Re6.trans (CHr.keep Kq7 (allS c12 all0) hCe6)
  have hCe13 := Re13.1
  have sf7 := Safe.keep Kq7 (allS c12 all0) hCe6 (Safe.new u27)
  have K7 : Keep h0 T7.heap [] := K5.trans Kq7 (allS (Or.inr sz_b1) all0)
  have Z7 : n0 ≤ T7.heap.size := Nat.le_trans Z5 Kq7.1
  have hk7 : _ ≤ T7.heap.size := Nat.le_trans hk5 Kq7.1
  obtain ⟨fs, hr, hrun, hended, en1, en2, en3, en4⟩ := X7.leaveW hS0 (own_hk rfl hk7) (v := some (.ref b1)) (fun h => by rw [Bd.returns] at h; cases h)
  refine ⟨_, _, pre0 _ ?_, hrun, hended, _, _, rfl, ?_, own_chr (T := T7) hh rfl (Re13.trans (CHv.at X7 hZ (own_EW hw) hCe13)), en1, en2, en3, en4.mono (by decide) (by decide)⟩
  · show SS p e below s₁ (mkF m 0 #[vi (1 : Int32), vi p1, vi p2, vi p3, vi p4, vi p5, vi p6] []) _
    refine XS.iloadN X0.here hx rfl (hb hby d11_0) rfl ?_
    show SS p e below s₁ (mkF m 1 #[vi (1 : Int32), vi p1, vi p2, vi p3, vi p4, vi p5, vi p6] [(.int (1 : Int32))]) _
    refine XS.ifYes X0.here hx rfl (pc0 := 1) (pc' := 15) rfl (hb hby d11_1) rfl ((if0 _ _).trans (feq (by decide : ¬ ((1 : Int32) = (0 : Int32)))).2) (by decide) (by decide) ?_
    show SS p e below s₁ (mkF m 15 #[vi (1 : Int32), vi p1, vi p2, vi p3, vi p4, vi p5, vi p6] []) _
    refine XS.iloadN X0.here hx rfl (hb hby d11_15) rfl ?_
    show SS p e below s₁ (mkF m 16 #[vi (1 : Int32), vi p1, vi p2, vi p3, vi p4, vi p5, vi p6] [(.int (1 : Int32))]) _
    refine XS.iconst X0.here hx rfl (hb hby d11_16) ?_
    show SS p e below s₁ (mkF m 17 #[vi (1 : Int32), vi p1, vi p2, vi p3, vi p4, vi p5, vi p6] [(.int (1 : Int32)), (.int (1 : Int32))]) _
    refine XS.icmpNo X0.here hx rfl (hb hby d11_17) rfl (teq (by decide : (1 : Int32) = (1 : Int32))).2 ?_
    show SS p e below s₁ (mkF m 20 #[vi (1 : Int32), vi p1, vi p2, vi p3, vi p4, vi p5, vi p6] []) _
    refine st1 _ ?_
    show SS p e below T1 (mkF m 23 #[vi (1 : Int32), vi p1, vi p2, vi p3, vi p4, vi p5, vi p6] [(.ref b1)]) _
    refine XS.dup X1.here hx rfl (hb hby d11_23) rfl rfl ?_
    show SS p e below T1 (mkF m 24 #[vi (1 : Int32), vi p1, vi p2, vi p3, vi p4, vi p5, vi p6] [(.ref b1), (.ref b1)]) _
    refine XS.iconst X1.here hx rfl (hb hby d11_24) ?_
    show SS p e below T1 (mkF m 25 #[vi (1 : Int32), vi p1, vi p2, vi p3, vi p4, vi p5, vi p6] [(.int (1 : Int32)), (.ref b1), (.ref b1)]) _
    refine st3 _ ?_
    show SS p e below T3 (mkF m 27 #[vi (1 : Int32), vi p1, vi p2, vi p3, vi p4, vi p5, vi p6] [(.ref b3), (.ref b1), (.ref b1)]) _
    refine XS.dup X3.here hx rfl (hb hby d11_27) rfl rfl ?_
    show SS p e below T3 (mkF m 28 #[vi (1 : Int32), vi p1, vi p2, vi p3, vi p4, vi p5, vi p6] [(.ref b3), (.ref b3), (.ref b1), (.ref b1)]) _
    refine XS.iconst X3.here hx rfl (hb hby d11_28) ?_
    show SS p e below T3 (mkF m 29 #[vi (1 : Int32), vi p1, vi p2, vi p3, vi p4, vi p5, vi p6] [(.int (0 : Int32)), (.ref b3), (.ref b3), (.ref b1), (.ref b1)]) _
    refine XS.iloadN X3.here hx rfl (hb hby d11_29) rfl ?_
    show SS p e below T3 (mkF m 30 #[vi (1 : Int32), vi p1, vi p2, vi p3, vi p4, vi p5, vi p6] [(.int p1), (.int (0 : Int32)), (.ref b3), (.ref b3), (.ref b1), (.ref b1)]) _
    refine st5 _ ?_
    show SS p e below T5 (mkF m 31 #[vi (1 : Int32), vi p1, vi p2, vi p3, vi p4, vi p5, vi p6] [(.ref b3), (.ref b1), (.ref b1)]) _
    refine st7.trans ?_
    show SS p e below T7 (mkF m 34 #[vi (1 : Int32), vi p1, vi p2, vi p3, vi p4, vi p5, vi p6] [(.ref b1)]) _
    exact retOut X7 hx Bd.returns rfl (Or.inr (Or.inr (Or.inr (Or.inr ⟨rfl, rfl, rfl⟩)))) (hb hby d11_34) hr
  · show Q_rmM1 Z p1 p2 p3 p4 p5 p6 zc fm h0 n0 _ T7.heap _
    exact ⟨b1, t7, kt7, rfl, N7, K7, fE7, fC7, fV7, fK7⟩
theorem ef_17 (m : MethodId) (x1 : Int32) (x2 : Int32) (x3 : Int32) (x4 : Int32) (x5 : Int32) (x6 : Int32) : entryFrame m #[(.int (2 : Int32)), (.int x1), (.int x2), (.int x3), (.int x4), (.int x5), (.int x6)] 7 = mkF m 0 #[vi (2 : Int32), vi x1, vi x2, vi x3, vi x4, vi x5, vi x6] [] := by first | (simp [entryFrame, mkF, argsToLocals, Value.category]; done) | rfl
theorem d11_35 : decode method_6_code 35 = .ok (.iload_n 0, 1) := by decide +kernel
theorem d11_36 : decode method_6_code 36 = .ok (.iconst 2, 1) := by decide +kernel
theorem d11_37 : decode method_6_code 37 = .ok (.if_icmp .ne 22, 3) := by decide +kernel
theorem d11_40 : decode method_6_code 40 = .ok (.new 28, 3) := by decide +kernel
theorem d11_43 : decode method_6_code 43 = .ok (.dup, 1) := by decide +kernel
theorem d11_44 : decode method_6_code 44 = .ok (.iconst 2, 1) := by decide +kernel
theorem d11_45 : decode method_6_code 45 = .ok (.newarray .char, 2) := by decide +kernel
theorem d11_47 : decode method_6_code 47 = .ok (.dup, 1) := by decide +kernel
theorem d11_48 : decode method_6_code 48 = .ok (.iconst 0, 1) := by decide +kernel
theorem d11_49 : decode method_6_code 49 = .ok (.iload_n 1, 1) := by decide +kernel
theorem d11_50 : decode method_6_code 50 = .ok (.castore, 1) := by decide +kernel
theorem d11_51 : decode method_6_code 51 = .ok (.dup, 1) := by decide +kernel
theorem d11_52 : decode method_6_code 52 = .ok (.iconst 1, 1) := by decide +kernel
theorem d11_53 : decode method_6_code 53 = .ok (.iload_n 2, 1) := by decide +kernel
theorem d11_54 : decode method_6_code 54 = .ok (.castore, 1) := by decide +kernel
theorem d11_55 : decode method_6_code 55 = .ok (.invokespecial 49, 3) := by decide +kernel
theorem d11_58 : decode method_6_code 58 = .ok (.areturn, 1) := by decide +kernel
def Q_rmM2 (Z : State) (p1 : Int32) (p2 : Int32) (p3 : Int32) (p4 : Int32) (p5 : Int32) (p6 : Int32) (zc : Int32) (fm : Value) (h0 : Heap) (n0 : Nat) (v : Option Value) (h : Heap) (L : List Loc) : Prop := ∃ (nx : Addr), ∃ (nt : Addr), ∃ (nk : ClassId), (v = some (.ref nx) ∧ Fr n0 L ∧ Keep h0 h [] ∧ Exa Z h nx "java/lang/String" ∧ Fld Z h nx "java/lang/String" "coder" "B" (.int (0 : Int32)) ∧ Fld Z h nx "java/lang/String" "value" "[B" (.ref nt) ∧ Arv Z h nt nk .byte (2 : Int32) ((([p1, p2] : List Int32).map (fun c => c.toInt8.toInt32)).map Value.int) (.int (0 : Int32)))
set_option maxRecDepth 65536 in
set_option maxHeartbeats 40000000 in
theorem rmM2 (l : Launch) (Z : State) (a0 : Array Value) (hw : ∀ d ∈ tables_1, d.before a0 Z = true) (ws : List Jvm.Cond) (p1 : Int32) (p2 : Int32) (p3 : Int32) (p4 : Int32) (p5 : Int32) (p6 : Int32) (zc : Int32) (fm : Value) (h0 : Heap) (n0 : Nat) (Z0 : n0 ≤ h0.size) (uO : Old Z n0 h0) (uS : Sta Z Z.heap "java/lang/String" "COMPACT_STRINGS" "Z" (.int zc)) (uF : Sta Z Z.heap "jdk/internal/util/Preconditions" "SIOOBE_FORMATTER" "Ljava/util/function/BiFunction;" fm) (uP : ¬ zc = 0) (uR : fm.isRef = true) (ub_p1 : ¬ p1 < 0 ∧ ¬ (255 : Int32) < p1) (ub_p2 : ¬ p2 < 0 ∧ ¬ (255 : Int32) < p2) (ub_p3 : ¬ p3 < 0 ∧ ¬ (255 : Int32) < p3) (ub_p4 : ¬ p4 < 0 ∧ ¬ (255 : Int32) < p4) (ub_p5 : ¬ p5 < 0 ∧ ¬ (255 : Int32) < p5) (ub_p6 : ¬ p6 < 0 ∧ ¬ (255 : Int32) < p6) :
    MetFree l (⟨"com/example/wireform/wireform/json/JsonIsReservedPinLaw", "make", "(ICCCCCC)Ljava/lang/String;"⟩ : MethodName) (head1 (Jvm.Cond.code (⟨"com/example/wireform/wireform/json/JsonIsReservedPinLaw", "make", "(ICCCCCC)Ljava/lang/String;"⟩ : MethodName) method_6_code 7 (some (.object "java/lang/String")) :: ws) ({ frames := 4, cells := 3, slots := 8, locals := 66 } : Room)) (fun a U => a = #[(.int (2 : Int32)), (.int p1), (.int p2), (.int p3), (.int p4), (.int p5), (.int p6)] ∧ Z.Warmed39 U.vm ∧ U.heap = h0 ∧ CHv Z own_EL U.vm h0) (fun _ _ _ _ _ => True) (fun _ U o U' => ∃ v L, o = .returned v ∧ Q_rmM2 Z p1 p2 p3 p4 p5 p6 zc fm h0 n0 v U'.heap L ∧ CHr Z own_EL U.vm U.heap U'.vm U'.heap ∧ ReturnedEndW U o U' L ({ frames := 4, cells := 3, slots := 8, locals := 66 } : Room).cells ({ frames := 4, cells := 3, slots := 8, locals := 66 } : Room).slots) := by
  refine MetFree.of_bodySF (plainFor_of_name pn_0) hisR ?_
  intro p e s m args below meth c s₁ Bd hml0 hP hK
  obtain ⟨rfl, hZ, hh, hC0⟩ := hP
  have hx := Bd.exec
  have hby := Bd.bytes
  have hml : c.maxLocals = 7 := hml0
  have hown : s.vm.findClass "com/example/wireform/wireform/json/JsonIsReservedPinLaw" = some m.cls := findClass_of_methodNamed Bd.named
  have hnm := (name_of_methodNamed Bd.named Bd.method).1
  have X0 : Stand p l e ({ frames := 4, cells := 3, slots := 8, locals := 66 } : Room) (s.setVm s.vm) m #[(.int (2 : Int32)), (.int p1), (.int p2), (.int p3), (.int p4), (.int p5), (.int p6)] below meth c s₁ [] 0 0 := Stand.of_body Bd
  have e0 : s₁.heap = h0 := by rw [← hh, Bd.state]; rfl
  have N0 := Fr.nil n0
  have pre0 : ∀ t, Steps p.tables e below (s₁.setTop (mkF m 0 #[vi (2 : Int32), vi p1, vi p2, vi p3, vi p4, vi p5, vi p6] [])) t → Steps p.tables e below (s₁.setTop (entryFrame m #[(.int (2 : Int32)), (.int p1), (.int p2), (.int p3), (.int p4), (.int p5), (.int p6)] 7)) t := fun t k => castTop (ef_17 m p1 p2 p3 p4 p5 p6) k
  have hS0 : s.Since s.vm 0 := (State.WarmedH.refl s).since _
  have hk0 : 0 ≤ h0.size := Nat.zero_le _
  have R0 := CHr.refl hC0
  have own_hp : ∀ c ∈ ([p1, p2] : List Int32), ¬ c < 0 ∧ ¬ (255 : Int32) < c := by
    intro c hc
    simp only [List.mem_cons, List.not_mem_nil, or_false] at hc
    rcases hc with rfl | rfl
    · exact ub_p1
    · exact ub_p2
  obtain ⟨T1, h1, X1, e1, E1, A1, D1, Un1, st1⟩ := newO X0 hx hZ hown (wd hw 57 rfl) (wd hw 13 rfl) (wd hw 12 rfl) e0 (g := (mkF m 40 #[vi (2 : Int32), vi p1, vi p2, vi p3, vi p4, vi p5, vi p6] [])) rfl (hb hby d11_40) (by decide) (by decide)
  obtain ⟨b1, g1⟩ : ∃ z, z = h0.size := ⟨_, rfl⟩
  rw [← g1] at A1 D1 Un1 st1
  have Re2 := R0.trans (CHr.ext E1 hC0)
  have hCe2 := Re2.1
  have sf1 := Safe.ext E1 hC0 (Safe.new (Nat.le_of_eq g1.symm))
  have F1_value : Fld Z h1 b1 "java/lang/String" "value" "[B" .null := D1 (Or.inr (wd hw 15 rfl)) (ty := (.array .byte)) (by decide)
  have F1_coder : Fld Z h1 b1 "java/lang/String" "coder" "B" (.int (0 : Int32)) := D1 (Or.inr (wd hw 16 rfl)) (ty := .byte) (by decide)
  have g_b1 : n0 ≤ b1 := Nat.le_trans Z0 (Nat.le_of_eq g1.symm)
  have sz_b1 : h0.size ≤ b1 := Nat.le_trans (Keep.refl h0 []).1 (Nat.le_of_eq g1.symm)
  have K1 : Keep h0 h1 [] := (Keep.refl h0 []).ext E1
  have Z1 : n0 ≤ h1.size := Nat.le_trans Z0 E1.1
  have hk1 : _ ≤ h1.size := Nat.le_trans hk0 E1.1
  obtain ⟨T3, h3, k3, X3, e3, E3, A3, AX3, st3⟩ := newPE X1 hx hZ (wd hw 58 rfl) e1 (g := (mkF m 45 #[vi (2 : Int32), vi p1, vi p2, vi p3, vi p4, vi p5, vi p6] [(.int (2 : Int32)), (.ref b1), (.ref b1)])) rfl (hb hby d11_45) rfl (by decide) (cap := 2) (by decide) (by decide) (by decide) (by decide) (ad := "[C") (by decide)
  obtain ⟨b3, g3⟩ : ∃ z, z = h1.size := ⟨_, rfl⟩
  rw [← g3] at A3 AX3 st3
  have ne_b1_b3 : b1 ≠ b3 := Nat.ne_of_lt (Nat.lt_of_lt_of_le A1.lt (Nat.le_of_eq g3.symm))
  have Re4 := Re2.trans (CHr.ext E3 hCe2)
  have hCe4 := Re4.1
  have V3 : Arv Z h3 b3 k3 .char (2 : Int32) [(.int (0 : Int32)), (.int (0 : Int32))] (.int (0 : Int32)) := (Arv.new A3 (by decide)).pad (pad_rep [] (.int (0 : Int32)) 2)
  have g_b3 : n0 ≤ b3 := Nat.le_trans Z1 (Nat.le_of_eq g3.symm)
  have sz_b3 : h0.size ≤ b3 := Nat.le_trans K1.1 (Nat.le_of_eq g3.symm)
  have K3 : Keep h0 h3 [] := K1.ext E3
  have Z3 : n0 ≤ h3.size := Nat.le_trans Z1 E3.1
  have hk3 : _ ≤ h3.size := Nat.le_trans hk1 E3.1
  obtain ⟨cl5, Ar5, q5, S5, Nn5, H5, G5⟩ := (id V3)
  have hin5 : ¬ ((0 : Int32) < 0 ∨ cl5.slots.size ≤ ((0 : Int32)).toNatClampNeg) := inb_of S5 ⟨by decide, by decide⟩
  obtain ⟨T5, h5, X5, e5, W5, st5⟩ := stC X3 hx hZ e3 Ar5 (j := (0 : Int32)) hin5 (g := (mkF m 50 #[vi (2 : Int32), vi p1, vi p2, vi p3, vi p4, vi p5, vi p6] [(.int p1), (.int (0 : Int32)), (.ref b3), (.ref b3), (.ref b1), (.ref b1)])) rfl rfl (hb hby d11_50)
  have Re6 := Re4.trans (CHr.wr W5 (Safe.exa hZ.alike AX3 (by decide) (by decide)) hCe4)
  have hCe6 := Re6.1
  have V5 : Arv Z h5 b3 k3 .char (2 : Int32) [(.int (nar .char p1)), (.int (0 : Int32))] (.int (0 : Int32)) := Arv.set Ar5 q5 S5 Nn5 H5 G5 (fits_nar_char _) W5 0 rfl (Nat.le_of_ble_eq_true rfl)
  have Vn5 : Arv Z h5 b3 k3 .char (2 : Int32) [(.int p1), (.int (0 : Int32))] (.int (0 : Int32)) := by have q := V5; rw [(own_ne ub_p1)] at q; exact q
  have N5 := Fr.snoc X5 N0 g_b3
  have K5 : Keep h0 h5 [] := K3.wr W5 (Or.inr sz_b3)
  have Z5 : n0 ≤ h5.size := by rw [W5.size]; exact Z3
  have hk5 := own_szW W5 hk3
  obtain ⟨cl7, Ar7, q7, S7, Nn7, H7, G7⟩ := (id Vn5)
  have hin7 : ¬ ((1 : Int32) < 0 ∨ cl7.slots.size ≤ ((1 : Int32)).toNatClampNeg) := inb_of S7 ⟨by decide, by decide⟩
  obtain ⟨T7, h7, X7, e7, W7, st7⟩ := stC X5 hx hZ e5 Ar7 (j := (1 : Int32)) hin7 (g := (mkF m 54 #[vi (2 : Int32), vi p1, vi p2, vi p3, vi p4, vi p5, vi p6] [(.int p2), (.int (1 : Int32)), (.ref b3), (.ref b3), (.ref b1), (.ref b1)])) rfl rfl (hb hby d11_54)
  have c8 := (AX3.wr W5)
  have Re9 := Re6.trans (CHr.wr W7 (Safe.exa hZ.alike c8 (by decide) (by decide)) hCe6)
  have hCe9 := Re9.1
  have V7 : Arv Z h7 b3 k3 .char (2 : Int32) [(.int p1), (.int (nar .char p2))] (.int (0 : Int32)) := Arv.set Ar7 q7 S7 Nn7 H7 G7 (fits_nar_char _) W7 1 rfl (Nat.le_of_ble_eq_true rfl)
  have Vn7 : Arv Z h7 b3 k3 .char (2 : Int32) [(.int p1), (.int p2)] (.int (0 : Int32)) := by have q := V7; rw [(own_ne ub_p2)] at q; exact q
  have N7 := Fr.snoc X7 N5 g_b3
  have K7 : Keep h0 h7 [] := K5.wr W7 (Or.inr sz_b3)
  have Z7 : n0 ≤ h7.size := by rw [W7.size]; exact Z5
  have hk7 := own_szW W7 hk5
  have c11 := (((A1.ext E3).wr W5).wr W7)
  have c12 := (((F1_value.ext E3).other W5 (Or.inl ne_b1_b3)).other W7 (Or.inl ne_b1_b3))
  have c13 := (((F1_coder.ext E3).other W5 (Or.inl ne_b1_b3)).other W7 (Or.inl ne_b1_b3))
  have c14 := ((((uO.ext E1).ext E3).wr W5 g_b3).wr W7 g_b3)
  obtain ⟨_, _, ⟨T10, Lw10, kw10, nw10⟩, -, X10, ⟨Lc10, hQ10, lq10, yq10, zq10⟩, st10⟩ := X7.specialBack hx (y := (⟨"java/lang/String", "<init>", "([C)V"⟩ : MethodName)) rfl hown (mvT hZ (wd hw 59 rfl)) (mvT hZ (wd hw 60 rfl)) (mvT hZ (wd hw 61 rfl)) (by decide) (StrChars.Road.backV (W := 1) hZ (fun d hd => hw d (own_w_words d hd)) (kI := 4) (wd hw 13 rfl) (cs := ([p1, p2] : List Int32)) (bs := (([p1, p2] : List Int32).map (fun c => c.toInt8.toInt32))) (n := 2) g_b1 Z7 c11 c12 c13 Vn7 (uS.ext c14.2) uP rfl rfl (by decide) (by decide) own_hp rfl (by decide) (by decide)) (g := (mkF m 55 #[vi (2 : Int32), vi p1, vi p2, vi p3, vi p4, vi p5, vi p6] [(.ref b3), (.ref b1), (.ref b1)])) rfl (by rw [hml]; rfl) (Steps.refl _) (a := b1) (argsL := [(.ref b3)]) (rest := [(.ref b1)]) (lenOf pd_5 rfl) rfl (by show 2 * 0 + _ ≤ _; exact Nat.le_of_eq rfl) (hb hby d11_55) (fun _ _ => ⟨rfl, e7, (by decide : 2 + 1 ≤ _), (by decide : 6 + 2 ≤ _)⟩)
  dsimp only [Pt.U, Pt.locs, Pt.cells, Pt.slots] at X10 lq10 yq10 zq10 st10 hQ10
  have X10 := own_reb X10 lq10 yq10 zq10
  obtain ⟨rfl, Nq10, Kq10, fE10, fC10, t10, kt10, u110, u210, u310, fV10, fK10⟩ := hQ10
  have N10 := Fr.app N7 Nq10
  have ne_b1_t10 : b1 ≠ t10 := Nat.ne_of_lt (Nat.lt_of_lt_of_le c11.lt u210)
  have ne_b3_t10 : b3 ≠ t10 := Nat.ne_of_lt (Nat.lt_of_lt_of_le Vn7.lt u210)
  have sz_t10 : h0.size ≤ t10 := Nat.le_trans K7.1 u210
  have c15 := (Safe.wr W7 (Safe.exa hZ.alike c8 (by decide) (by decide)) hCe6 (Safe.wr W5 (Safe.exa hZ.alike AX3 (by decide) (by decide)) hCe4 (Safe.ext E3 hCe2 sf1)))
  have Re16 := Re9.trans (CHr.keep Kq10 (allS c15 all0) hCe9)
  have hCe16 := Re16.1
  have sf10 := Safe.keep Kq10 (allS c15 all0) hCe9 (Safe.new u210)
  have K10 : Keep h0 T10.heap [] := K7.trans Kq10 (allS (Or.inr sz_b1) all0)
  have Z10 : n0 ≤ T10.heap.size := Nat.le_trans Z7 Kq10.1
  have hk10 : _ ≤ T10.heap.size := Nat.le_trans hk7 Kq10.1
  obtain ⟨fs, hr, hrun, hended, en1, en2, en3, en4⟩ := X10.leaveW hS0 (own_hk rfl hk10) (v := some (.ref b1)) (fun h => by rw [Bd.returns] at h; cases h)
  refine ⟨_, _, pre0 _ ?_, hrun, hended, _, _, rfl, ?_, own_chr (T := T10) hh rfl (Re16.trans (CHv.at X10 hZ (own_EW hw) hCe16)), en1, en2, en3, en4.mono (by decide) (by decide)⟩
  · show SS p e below s₁ (mkF m 0 #[vi (2 : Int32), vi p1, vi p2, vi p3, vi p4, vi p5, vi p6] []) _
    refine XS.iloadN X0.here hx rfl (hb hby d11_0) rfl ?_
    show SS p e below s₁ (mkF m 1 #[vi (2 : Int32), vi p1, vi p2, vi p3, vi p4, vi p5, vi p6] [(.int (2 : Int32))]) _
    refine XS.ifYes X0.here hx rfl (pc0 := 1) (pc' := 15) rfl (hb hby d11_1) rfl ((if0 _ _).trans (feq (by decide : ¬ ((2 : Int32) = (0 : Int32)))).2) (by decide) (by decide) ?_
    show SS p e below s₁ (mkF m 15 #[vi (2 : Int32), vi p1, vi p2, vi p3, vi p4, vi p5, vi p6] []) _
    refine XS.iloadN X0.here hx rfl (hb hby d11_15) rfl ?_
    show SS p e below s₁ (mkF m 16 #[vi (2 : Int32), vi p1, vi p2, vi p3, vi p4, vi p5, vi p6] [(.int (2 : Int32))]) _
    refine XS.iconst X0.here hx rfl (hb hby d11_16) ?_
    show SS p e below s₁ (mkF m 17 #[vi (2 : Int32), vi p1, vi p2, vi p3, vi p4, vi p5, vi p6] [(.int (1 : Int32)), (.int (2 : Int32))]) _
    refine XS.icmpYes X0.here hx rfl (pc0 := 17) (pc' := 35) rfl (hb hby d11_17) rfl (feq (by decide : ¬ ((2 : Int32) = (1 : Int32)))).2 (by decide) (by decide) ?_
    show SS p e below s₁ (mkF m 35 #[vi (2 : Int32), vi p1, vi p2, vi p3, vi p4, vi p5, vi p6] []) _
    refine XS.iloadN X0.here hx rfl (hb hby d11_35) rfl ?_
    show SS p e below s₁ (mkF m 36 #[vi (2 : Int32), vi p1, vi p2, vi p3, vi p4, vi p5, vi p6] [(.int (2 : Int32))]) _
    refine XS.iconst X0.here hx rfl (hb hby d11_36) ?_
    show SS p e below s₁ (mkF m 37 #[vi (2 : Int32), vi p1, vi p2, vi p3, vi p4, vi p5, vi p6] [(.int (2 : Int32)), (.int (2 : Int32))]) _
    refine XS.icmpNo X0.here hx rfl (hb hby d11_37) rfl (teq (by decide : (2 : Int32) = (2 : Int32))).2 ?_
    show SS p e below s₁ (mkF m 40 #[vi (2 : Int32), vi p1, vi p2, vi p3, vi p4, vi p5, vi p6] []) _
    refine st1 _ ?_
    show SS p e below T1 (mkF m 43 #[vi (2 : Int32), vi p1, vi p2, vi p3, vi p4, vi p5, vi p6] [(.ref b1)]) _
    refine XS.dup X1.here hx rfl (hb hby d11_43) rfl rfl ?_
    show SS p e below T1 (mkF m 44 #[vi (2 : Int32), vi p1, vi p2, vi p3, vi p4, vi p5, vi p6] [(.ref b1), (.ref b1)]) _
    refine XS.iconst X1.here hx rfl (hb hby d11_44) ?_
    show SS p e below T1 (mkF m 45 #[vi (2 : Int32), vi p1, vi p2, vi p3, vi p4, vi p5, vi p6] [(.int (2 : Int32)), (.ref b1), (.ref b1)]) _
    refine st3 _ ?_
    show SS p e below T3 (mkF m 47 #[vi (2 : Int32), vi p1, vi p2, vi p3, vi p4, vi p5, vi p6] [(.ref b3), (.ref b1), (.ref b1)]) _
    refine XS.dup X3.here hx rfl (hb hby d11_47) rfl rfl ?_
    show SS p e below T3 (mkF m 48 #[vi (2 : Int32), vi p1, vi p2, vi p3, vi p4, vi p5, vi p6] [(.ref b3), (.ref b3), (.ref b1), (.ref b1)]) _
    refine XS.iconst X3.here hx rfl (hb hby d11_48) ?_
    show SS p e below T3 (mkF m 49 #[vi (2 : Int32), vi p1, vi p2, vi p3, vi p4, vi p5, vi p6] [(.int (0 : Int32)), (.ref b3), (.ref b3), (.ref b1), (.ref b1)]) _
    refine XS.iloadN X3.here hx rfl (hb hby d11_49) rfl ?_
    show SS p e below T3 (mkF m 50 #[vi (2 : Int32), vi p1, vi p2, vi p3, vi p4, vi p5, vi p6] [(.int p1), (.int (0 : Int32)), (.ref b3), (.ref b3), (.ref b1), (.ref b1)]) _
    refine st5 _ ?_
    show SS p e below T5 (mkF m 51 #[vi (2 : Int32), vi p1, vi p2, vi p3, vi p4, vi p5, vi p6] [(.ref b3), (.ref b1), (.ref b1)]) _
    refine XS.dup X5.here hx rfl (hb hby d11_51) rfl rfl ?_
    show SS p e below T5 (mkF m 52 #[vi (2 : Int32), vi p1, vi p2, vi p3, vi p4, vi p5, vi p6] [(.ref b3), (.ref b3), (.ref b1), (.ref b1)]) _
    refine XS.iconst X5.here hx rfl (hb hby d11_52) ?_
    show SS p e below T5 (mkF m 53 #[vi (2 : Int32), vi p1, vi p2, vi p3, vi p4, vi p5, vi p6] [(.int (1 : Int32)), (.ref b3), (.ref b3), (.ref b1), (.ref b1)]) _
    refine XS.iloadN X5.here hx rfl (hb hby d11_53) rfl ?_
    show SS p e below T5 (mkF m 54 #[vi (2 : Int32), vi p1, vi p2, vi p3, vi p4, vi p5, vi p6] [(.int p2), (.int (1 : Int32)), (.ref b3), (.ref b3), (.ref b1), (.ref b1)]) _
    refine st7 _ ?_
    show SS p e below T7 (mkF m 55 #[vi (2 : Int32), vi p1, vi p2, vi p3, vi p4, vi p5, vi p6] [(.ref b3), (.ref b1), (.ref b1)]) _
    refine st10.trans ?_
    show SS p e below T10 (mkF m 58 #[vi (2 : Int32), vi p1, vi p2, vi p3, vi p4, vi p5, vi p6] [(.ref b1)]) _
    exact retOut X10 hx Bd.returns rfl (Or.inr (Or.inr (Or.inr (Or.inr ⟨rfl, rfl, rfl⟩)))) (hb hby d11_58) hr
  · show Q_rmM2 Z p1 p2 p3 p4 p5 p6 zc fm h0 n0 _ T10.heap _
    exact ⟨b1, t10, kt10, rfl, N10, K10, fE10, fC10, fV10, fK10⟩
theorem ef_18 (m : MethodId) (x1 : Int32) (x2 : Int32) (x3 : Int32) (x4 : Int32) (x5 : Int32) (x6 : Int32) : entryFrame m #[(.int (3 : Int32)), (.int x1), (.int x2), (.int x3), (.int x4), (.int x5), (.int x6)] 7 = mkF m 0 #[vi (3 : Int32), vi x1, vi x2, vi x3, vi x4, vi x5, vi x6] [] := by first | (simp [entryFrame, mkF, argsToLocals, Value.category]; done) | rfl
theorem d11_59 : decode method_6_code 59 = .ok (.iload_n 0, 1) := by decide +kernel
theorem d11_60 : decode method_6_code 60 = .ok (.iconst 3, 1) := by decide +kernel
theorem d11_61 : decode method_6_code 61 = .ok (.if_icmp .ne 26, 3) := by decide +kernel
theorem d11_64 : decode method_6_code 64 = .ok (.new 28, 3) := by decide +kernel
theorem d11_67 : decode method_6_code 67 = .ok (.dup, 1) := by decide +kernel
theorem d11_68 : decode method_6_code 68 = .ok (.iconst 3, 1) := by decide +kernel
theorem d11_69 : decode method_6_code 69 = .ok (.newarray .char, 2) := by decide +kernel
theorem d11_71 : decode method_6_code 71 = .ok (.dup, 1) := by decide +kernel
theorem d11_72 : decode method_6_code 72 = .ok (.iconst 0, 1) := by decide +kernel
theorem d11_73 : decode method_6_code 73 = .ok (.iload_n 1, 1) := by decide +kernel
theorem d11_74 : decode method_6_code 74 = .ok (.castore, 1) := by decide +kernel
theorem d11_75 : decode method_6_code 75 = .ok (.dup, 1) := by decide +kernel
theorem d11_76 : decode method_6_code 76 = .ok (.iconst 1, 1) := by decide +kernel
theorem d11_77 : decode method_6_code 77 = .ok (.iload_n 2, 1) := by decide +kernel
theorem d11_78 : decode method_6_code 78 = .ok (.castore, 1) := by decide +kernel
theorem d11_79 : decode method_6_code 79 = .ok (.dup, 1) := by decide +kernel
theorem d11_80 : decode method_6_code 80 = .ok (.iconst 2, 1) := by decide +kernel
theorem d11_81 : decode method_6_code 81 = .ok (.iload_n 3, 1) := by decide +kernel
theorem d11_82 : decode method_6_code 82 = .ok (.castore, 1) := by decide +kernel
theorem d11_83 : decode method_6_code 83 = .ok (.invokespecial 49, 3) := by decide +kernel
theorem d11_86 : decode method_6_code 86 = .ok (.areturn, 1) := by decide +kernel
def Q_rmM3 (Z : State) (p1 : Int32) (p2 : Int32) (p3 : Int32) (p4 : Int32) (p5 : Int32) (p6 : Int32) (zc : Int32) (fm : Value) (h0 : Heap) (n0 : Nat) (v : Option Value) (h : Heap) (L : List Loc) : Prop := ∃ (nx : Addr), ∃ (nt : Addr), ∃ (nk : ClassId), (v = some (.ref nx) ∧ Fr n0 L ∧ Keep h0 h [] ∧ Exa Z h nx "java/lang/String" ∧ Fld Z h nx "java/lang/String" "coder" "B" (.int (0 : Int32)) ∧ Fld Z h nx "java/lang/String" "value" "[B" (.ref nt) ∧ Arv Z h nt nk .byte (3 : Int32) ((([p1, p2, p3] : List Int32).map (fun c => c.toInt8.toInt32)).map Value.int) (.int (0 : Int32)))
set_option maxRecDepth 65536 in
set_option maxHeartbeats 40000000 in
theorem rmM3 (l : Launch) (Z : State) (a0 : Array Value) (hw : ∀ d ∈ tables_1, d.before a0 Z = true) (ws : List Jvm.Cond) (p1 : Int32) (p2 : Int32) (p3 : Int32) (p4 : Int32) (p5 : Int32) (p6 : Int32) (zc : Int32) (fm : Value) (h0 : Heap) (n0 : Nat) (Z0 : n0 ≤ h0.size) (uO : Old Z n0 h0) (uS : Sta Z Z.heap "java/lang/String" "COMPACT_STRINGS" "Z" (.int zc)) (uF : Sta Z Z.heap "jdk/internal/util/Preconditions" "SIOOBE_FORMATTER" "Ljava/util/function/BiFunction;" fm) (uP : ¬ zc = 0) (uR : fm.isRef = true) (ub_p1 : ¬ p1 < 0 ∧ ¬ (255 : Int32) < p1) (ub_p2 : ¬ p2 < 0 ∧ ¬ (255 : Int32) < p2) (ub_p3 : ¬ p3 < 0 ∧ ¬ (255 : Int32) < p3) (ub_p4 : ¬ p4 < 0 ∧ ¬ (255 : Int32) < p4) (ub_p5 : ¬ p5 < 0 ∧ ¬ (255 : Int32) < p5) (ub_p6 : ¬ p6 < 0 ∧ ¬ (255 : Int32) < p6) :
    MetFree l (⟨"com/example/wireform/wireform/json/JsonIsReservedPinLaw", "make", "(ICCCCCC)Ljava/lang/String;"⟩ : MethodName) (head1 (Jvm.Cond.code (⟨"com/example/wireform/wireform/json/JsonIsReservedPinLaw", "make", "(ICCCCCC)Ljava/lang/String;"⟩ : MethodName) method_6_code 7 (some (.object "java/lang/String")) :: ws) ({ frames := 4, cells := 3, slots := 10, locals := 66 } : Room)) (fun a U => a = #[(.int (3 : Int32)), (.int p1), (.int p2), (.int p3), (.int p4), (.int p5), (.int p6)] ∧ Z.Warmed39 U.vm ∧ U.heap = h0 ∧ CHv Z own_EL U.vm h0) (fun _ _ _ _ _ => True) (fun _ U o U' => ∃ v L, o = .returned v ∧ Q_rmM3 Z p1 p2 p3 p4 p5 p6 zc fm h0 n0 v U'.heap L ∧ CHr Z own_EL U.vm U.heap U'.vm U'.heap ∧ ReturnedEndW U o U' L ({ frames := 4, cells := 3, slots := 10, locals := 66 } : Room).cells ({ frames := 4, cells := 3, slots := 10, locals := 66 } : Room).slots) := by
  refine MetFree.of_bodySF (plainFor_of_name pn_0) hisR ?_
  intro p e s m args below meth c s₁ Bd hml0 hP hK
  obtain ⟨rfl, hZ, hh, hC0⟩ := hP
  have hx := Bd.exec
  have hby := Bd.bytes
  have hml : c.maxLocals = 7 := hml0
  have hown : s.vm.findClass "com/example/wireform/wireform/json/JsonIsReservedPinLaw" = some m.cls := findClass_of_methodNamed Bd.named
  have hnm := (name_of_methodNamed Bd.named Bd.method).1
  have X0 : Stand p l e ({ frames := 4, cells := 3, slots := 10, locals := 66 } : Room) (s.setVm s.vm) m #[(.int (3 : Int32)), (.int p1), (.int p2), (.int p3), (.int p4), (.int p5), (.int p6)] below meth c s₁ [] 0 0 := Stand.of_body Bd
  have e0 : s₁.heap = h0 := by rw [← hh, Bd.state]; rfl
  have N0 := Fr.nil n0
  have pre0 : ∀ t, Steps p.tables e below (s₁.setTop (mkF m 0 #[vi (3 : Int32), vi p1, vi p2, vi p3, vi p4, vi p5, vi p6] [])) t → Steps p.tables e below (s₁.setTop (entryFrame m #[(.int (3 : Int32)), (.int p1), (.int p2), (.int p3), (.int p4), (.int p5), (.int p6)] 7)) t := fun t k => castTop (ef_18 m p1 p2 p3 p4 p5 p6) k
  have hS0 : s.Since s.vm 0 := (State.WarmedH.refl s).since _
  have hk0 : 0 ≤ h0.size := Nat.zero_le _
  have R0 := CHr.refl hC0
  have own_hp : ∀ c ∈ ([p1, p2, p3] : List Int32), ¬ c < 0 ∧ ¬ (255 : Int32) < c := by
    intro c hc
    simp only [List.mem_cons, List.not_mem_nil, or_false] at hc
    rcases hc with rfl | rfl | rfl
    · exact ub_p1
    · exact ub_p2
    · exact ub_p3
  obtain ⟨T1, h1, X1, e1, E1, A1, D1, Un1, st1⟩ := newO X0 hx hZ hown (wd hw 57 rfl) (wd hw 13 rfl) (wd hw 12 rfl) e0 (g := (mkF m 64 #[vi (3 : Int32), vi p1, vi p2, vi p3, vi p4, vi p5, vi p6] [])) rfl (hb hby d11_64) (by decide) (by decide)
  obtain ⟨b1, g1⟩ : ∃ z, z = h0.size := ⟨_, rfl⟩
  rw [← g1] at A1 D1 Un1 st1
  have Re2 := R0.trans (CHr.ext E1 hC0)
  have hCe2 := Re2.1
  have sf1 := Safe.ext E1 hC0 (Safe.new (Nat.le_of_eq g1.symm))
  have F1_value : Fld Z h1 b1 "java/lang/String" "value" "[B" .null := D1 (Or.inr (wd hw 15 rfl)) (ty := (.array .byte)) (by decide)
  have F1_coder : Fld Z h1 b1 "java/lang/String" "coder" "B" (.int (0 : Int32)) := D1 (Or.inr (wd hw 16 rfl)) (ty := .byte) (by decide)
  have g_b1 : n0 ≤ b1 := Nat.le_trans Z0 (Nat.le_of_eq g1.symm)
  have sz_b1 : h0.size ≤ b1 := Nat.le_trans (Keep.refl h0 []).1 (Nat.le_of_eq g1.symm)
  have K1 : Keep h0 h1 [] := (Keep.refl h0 []).ext E1
  have Z1 : n0 ≤ h1.size := Nat.le_trans Z0 E1.1
  have hk1 : _ ≤ h1.size := Nat.le_trans hk0 E1.1
  obtain ⟨T3, h3, k3, X3, e3, E3, A3, AX3, st3⟩ := newPE X1 hx hZ (wd hw 58 rfl) e1 (g := (mkF m 69 #[vi (3 : Int32), vi p1, vi p2, vi p3, vi p4, vi p5, vi p6] [(.int (3 : Int32)), (.ref b1), (.ref b1)])) rfl (hb hby d11_69) rfl (by decide) (cap := 3) (by decide) (by decide) (by decide) (by decide) (ad := "[C") (by decide)
  obtain ⟨b3, g3⟩ : ∃ z, z = h1.size := ⟨_, rfl⟩
  rw [← g3] at A3 AX3 st3
  have ne_b1_b3 : b1 ≠ b3 := Nat.ne_of_lt (Nat.lt_of_lt_of_le A1.lt (Nat.le_of_eq g3.symm))
  have Re4 := Re2.trans (CHr.ext E3 hCe2)
  have hCe4 := Re4.1
  have V3 : Arv Z h3 b3 k3 .char (3 : Int32) [(.int (0 : Int32)), (.int (0 : Int32)), (.int (0 : Int32))] (.int (0 : Int32)) := (Arv.new A3 (by decide)).pad (pad_rep [] (.int (0 : Int32)) 3)
  have g_b3 : n0 ≤ b3 := Nat.le_trans Z1 (Nat.le_of_eq g3.symm)
  have sz_b3 : h0.size ≤ b3 := Nat.le_trans K1.1 (Nat.le_of_eq g3.symm)
  have K3 : Keep h0 h3 [] := K1.ext E3
  have Z3 : n0 ≤ h3.size := Nat.le_trans Z1 E3.1
  have hk3 : _ ≤ h3.size := Nat.le_trans hk1 E3.1
  obtain ⟨cl5, Ar5, q5, S5, Nn5, H5, G5⟩ := (id V3)
  have hin5 : ¬ ((0 : Int32) < 0 ∨ cl5.slots.size ≤ ((0 : Int32)).toNatClampNeg) := inb_of S5 ⟨by decide, by decide⟩
  obtain ⟨T5, h5, X5, e5, W5, st5⟩ := stC X3 hx hZ e3 Ar5 (j := (0 : Int32)) hin5 (g := (mkF m 74 #[vi (3 : Int32), vi p1, vi p2, vi p3, vi p4, vi p5, vi p6] [(.int p1), (.int (0 : Int32)), (.ref b3), (.ref b3), (.ref b1), (.ref b1)])) rfl rfl (hb hby d11_74)
  have Re6 := Re4.trans (CHr.wr W5 (Safe.exa hZ.alike AX3 (by decide) (by decide)) hCe4)
  have hCe6 := Re6.1
  have V5 : Arv Z h5 b3 k3 .char (3 : Int32) [(.int (nar .char p1)), (.int (0 : Int32)), (.int (0 : Int32))] (.int (0 : Int32)) := Arv.set Ar5 q5 S5 Nn5 H5 G5 (fits_nar_char _) W5 0 rfl (Nat.le_of_ble_eq_true rfl)
  have Vn5 : Arv Z h5 b3 k3 .char (3 : Int32) [(.int p1), (.int (0 : Int32)), (.int (0 : Int32))] (.int (0 : Int32)) := by have q := V5; rw [(own_ne ub_p1)] at q; exact q
  have N5 := Fr.snoc X5 N0 g_b3
  have K5 : Keep h0 h5 [] := K3.wr W5 (Or.inr sz_b3)
  have Z5 : n0 ≤ h5.size := by rw [W5.size]; exact Z3
  have hk5 := own_szW W5 hk3
  obtain ⟨cl7, Ar7, q7, S7, Nn7, H7, G7⟩ := (id Vn5)
  have hin7 : ¬ ((1 : Int32) < 0 ∨ cl7.slots.size ≤ ((1 : Int32)).toNatClampNeg) := inb_of S7 ⟨by decide, by decide⟩
  obtain ⟨T7, h7, X7, e7, W7, st7⟩ := stC X5 hx hZ e5 Ar7 (j := (1 : Int32)) hin7 (g := (mkF m 78 #[vi (3 : Int32), vi p1, vi p2, vi p3, vi p4, vi p5, vi p6] [(.int p2), (.int (1 : Int32)), (.ref b3), (.ref b3), (.ref b1), (.ref b1)])) rfl rfl (hb hby d11_78)
  have c8 := (AX3.wr W5)
  have Re9 := Re6.trans (CHr.wr W7 (Safe.exa hZ.alike c8 (by decide) (by decide)) hCe6)
  have hCe9 := Re9.1
  have V7 : Arv Z h7 b3 k3 .char (3 : Int32) [(.int p1), (.int (nar .char p2)), (.int (0 : Int32))] (.int (0 : Int32)) := Arv.set Ar7 q7 S7 Nn7 H7 G7 (fits_nar_char _) W7 1 rfl (Nat.le_of_ble_eq_true rfl)
  have Vn7 : Arv Z h7 b3 k3 .char (3 : Int32) [(.int p1), (.int p2), (.int (0 : Int32))] (.int (0 : Int32)) := by have q := V7; rw [(own_ne ub_p2)] at q; exact q
  have N7 := Fr.snoc X7 N5 g_b3
  have K7 : Keep h0 h7 [] := K5.wr W7 (Or.inr sz_b3)
  have Z7 : n0 ≤ h7.size := by rw [W7.size]; exact Z5
  have hk7 := own_szW W7 hk5
  obtain ⟨cl10, Ar10, q10, S10, Nn10, H10, G10⟩ := (id Vn7)
  have hin10 : ¬ ((2 : Int32) < 0 ∨ cl10.slots.size ≤ ((2 : Int32)).toNatClampNeg) := inb_of S10 ⟨by decide, by decide⟩
  obtain ⟨T10, h10, X10, e10, W10, st10⟩ := stC X7 hx hZ e7 Ar10 (j := (2 : Int32)) hin10 (g := (mkF m 82 #[vi (3 : Int32), vi p1, vi p2, vi p3, vi p4, vi p5, vi p6] [(.int p3), (.int (2 : Int32)), (.ref b3), (.ref b3), (.ref b1), (.ref b1)])) rfl rfl (hb hby d11_82)
  have c11 := (c8.wr W7)
  have Re12 := Re9.trans (CHr.wr W10 (Safe.exa hZ.alike c11 (by decide) (by decide)) hCe9)
  have hCe12 := Re12.1
  have V10 : Arv Z h10 b3 k3 .char (3 : Int32) [(.int p1), (.int p2), (.int (nar .char p3))] (.int (0 : Int32)) := Arv.set Ar10 q10 S10 Nn10 H10 G10 (fits_nar_char _) W10 2 rfl (Nat.le_of_ble_eq_true rfl)
  have Vn10 : Arv Z h10 b3 k3 .char (3 : Int32) [(.int p1), (.int p2), (.int p3)] (.int (0 : Int32)) := by have q := V10; rw [(own_ne ub_p3)] at q; exact q
  have N10 := Fr.snoc X10 N7 g_b3
  have K10 : Keep h0 h10 [] := K7.wr W10 (Or.inr sz_b3)
  have Z10 : n0 ≤ h10.size := by rw [W10.size]; exact Z7
  have hk10 := own_szW W10 hk7
  have c14 := ((((A1.ext E3).wr W5).wr W7).wr W10)
  have c15 := ((((F1_value.ext E3).other W5 (Or.inl ne_b1_b3)).other W7 (Or.inl ne_b1_b3)).other W10 (Or.inl ne_b1_b3))
  have c16 := ((((F1_coder.ext E3).other W5 (Or.inl ne_b1_b3)).other W7 (Or.inl ne_b1_b3)).other W10 (Or.inl ne_b1_b3))
  have c17 := (((((uO.ext E1).ext E3).wr W5 g_b3).wr W7 g_b3).wr W10 g_b3)
  obtain ⟨_, _, ⟨T13, Lw13, kw13, nw13⟩, -, X13, ⟨Lc13, hQ13, lq13, yq13, zq13⟩, st13⟩ := X10.specialBack hx (y := (⟨"java/lang/String", "<init>", "([C)V"⟩ : MethodName)) rfl hown (mvT hZ (wd hw 59 rfl)) (mvT hZ (wd hw 60 rfl)) (mvT hZ (wd hw 61 rfl)) (by decide) (StrChars.Road.backV (W := 1) hZ (fun d hd => hw d (own_w_words d hd)) (kI := 4) (wd hw 13 rfl) (cs := ([p1, p2, p3] : List Int32)) (bs := (([p1, p2, p3] : List Int32).map (fun c => c.toInt8.toInt32))) (n := 3) g_b1 Z10 c14 c15 c16 Vn10 (uS.ext c17.2) uP rfl rfl (by decide) (by decide) own_hp rfl (by decide) (by decide)) (g := (mkF m 83 #[vi (3 : Int32), vi p1, vi p2, vi p3, vi p4, vi p5, vi p6] [(.ref b3), (.ref b1), (.ref b1)])) rfl (by rw [hml]; rfl) (Steps.refl _) (a := b1) (argsL := [(.ref b3)]) (rest := [(.ref b1)]) (lenOf pd_5 rfl) rfl (by show 2 * 0 + _ ≤ _; exact Nat.le_of_eq rfl) (hb hby d11_83) (fun _ _ => ⟨rfl, e10, (by decide : 2 + 1 ≤ _), (by decide : 7 + 3 ≤ _)⟩)
  dsimp only [Pt.U, Pt.locs, Pt.cells, Pt.slots] at X13 lq13 yq13 zq13 st13 hQ13
  have X13 := own_reb X13 lq13 yq13 zq13
  obtain ⟨rfl, Nq13, Kq13, fE13, fC13, t13, kt13, u113, u213, u313, fV13, fK13⟩ := hQ13
  have N13 := Fr.app N10 Nq13
  have ne_b1_t13 : b1 ≠ t13 := Nat.ne_of_lt (Nat.lt_of_lt_of_le c14.lt u213)
  have ne_b3_t13 : b3 ≠ t13 := Nat.ne_of_lt (Nat.lt_of_lt_of_le Vn10.lt u213)
  have sz_t13 : h0.size ≤ t13 := Nat.le_trans K10.1 u213
  have c18 := (Safe.wr W10 (Safe.exa hZ.alike c11 (by decide) (by decide)) hCe9 (Safe.wr W7 (Safe.exa hZ.alike c8 (by decide) (by decide)) hCe6 (Safe.wr W5 (Safe.exa hZ.alike AX3 (by decide) (by decide)) hCe4 (Safe.ext E3 hCe2 sf1))))
  have Re19 := Re12.trans (CHr.keep Kq13 (allS c18 all0) hCe12)
  have hCe19 := Re19.1
  have sf13 := Safe.keep Kq13 (allS c18 all0) hCe12 (Safe.new u213)
  have K13 : Keep h0 T13.heap [] := K10.trans Kq13 (allS (Or.inr sz_b1) all0)
  have Z13 : n0 ≤ T13.heap.size := Nat.le_trans Z10 Kq13.1
  have hk13 : _ ≤ T13.heap.size := Nat.le_trans hk10 Kq13.1
  obtain ⟨fs, hr, hrun, hended, en1, en2, en3, en4⟩ := X13.leaveW hS0 (own_hk rfl hk13) (v := some (.ref b1)) (fun h => by rw [Bd.returns] at h; cases h)
  refine ⟨_, _, pre0 _ ?_, hrun, hended, _, _, rfl, ?_, own_chr (T := T13) hh rfl (Re19.trans (CHv.at X13 hZ (own_EW hw) hCe19)), en1, en2, en3, en4.mono (by decide) (by decide)⟩
  · show SS p e below s₁ (mkF m 0 #[vi (3 : Int32), vi p1, vi p2, vi p3, vi p4, vi p5, vi p6] []) _
    refine XS.iloadN X0.here hx rfl (hb hby d11_0) rfl ?_
    show SS p e below s₁ (mkF m 1 #[vi (3 : Int32), vi p1, vi p2, vi p3, vi p4, vi p5, vi p6] [(.int (3 : Int32))]) _
    refine XS.ifYes X0.here hx rfl (pc0 := 1) (pc' := 15) rfl (hb hby d11_1) rfl ((if0 _ _).trans (feq (by decide : ¬ ((3 : Int32) = (0 : Int32)))).2) (by decide) (by decide) ?_
    show SS p e below s₁ (mkF m 15 #[vi (3 : Int32), vi p1, vi p2, vi p3, vi p4, vi p5, vi p6] []) _
    refine XS.iloadN X0.here hx rfl (hb hby d11_15) rfl ?_
    show SS p e below s₁ (mkF m 16 #[vi (3 : Int32), vi p1, vi p2, vi p3, vi p4, vi p5, vi p6] [(.int (3 : Int32))]) _
    refine XS.iconst X0.here hx rfl (hb hby d11_16) ?_
    show SS p e below s₁ (mkF m 17 #[vi (3 : Int32), vi p1, vi p2, vi p3, vi p4, vi p5, vi p6] [(.int (1 : Int32)), (.int (3 : Int32))]) _
    refine XS.icmpYes X0.here hx rfl (pc0 := 17) (pc' := 35) rfl (hb hby d11_17) rfl (feq (by decide : ¬ ((3 : Int32) = (1 : Int32)))).2 (by decide) (by decide) ?_
    show SS p e below s₁ (mkF m 35 #[vi (3 : Int32), vi p1, vi p2, vi p3, vi p4, vi p5, vi p6] []) _
    refine XS.iloadN X0.here hx rfl (hb hby d11_35) rfl ?_
    show SS p e below s₁ (mkF m 36 #[vi (3 : Int32), vi p1, vi p2, vi p3, vi p4, vi p5, vi p6] [(.int (3 : Int32))]) _
    refine XS.iconst X0.here hx rfl (hb hby d11_36) ?_
    show SS p e below s₁ (mkF m 37 #[vi (3 : Int32), vi p1, vi p2, vi p3, vi p4, vi p5, vi p6] [(.int (2 : Int32)), (.int (3 : Int32))]) _
    refine XS.icmpYes X0.here hx rfl (pc0 := 37) (pc' := 59) rfl (hb hby d11_37) rfl (feq (by decide : ¬ ((3 : Int32) = (2 : Int32)))).2 (by decide) (by decide) ?_
    show SS p e below s₁ (mkF m 59 #[vi (3 : Int32), vi p1, vi p2, vi p3, vi p4, vi p5, vi p6] []) _
    refine XS.iloadN X0.here hx rfl (hb hby d11_59) rfl ?_
    show SS p e below s₁ (mkF m 60 #[vi (3 : Int32), vi p1, vi p2, vi p3, vi p4, vi p5, vi p6] [(.int (3 : Int32))]) _
    refine XS.iconst X0.here hx rfl (hb hby d11_60) ?_
    show SS p e below s₁ (mkF m 61 #[vi (3 : Int32), vi p1, vi p2, vi p3, vi p4, vi p5, vi p6] [(.int (3 : Int32)), (.int (3 : Int32))]) _
    refine XS.icmpNo X0.here hx rfl (hb hby d11_61) rfl (teq (by decide : (3 : Int32) = (3 : Int32))).2 ?_
    show SS p e below s₁ (mkF m 64 #[vi (3 : Int32), vi p1, vi p2, vi p3, vi p4, vi p5, vi p6] []) _
    refine st1 _ ?_
    show SS p e below T1 (mkF m 67 #[vi (3 : Int32), vi p1, vi p2, vi p3, vi p4, vi p5, vi p6] [(.ref b1)]) _
    refine XS.dup X1.here hx rfl (hb hby d11_67) rfl rfl ?_
    show SS p e below T1 (mkF m 68 #[vi (3 : Int32), vi p1, vi p2, vi p3, vi p4, vi p5, vi p6] [(.ref b1), (.ref b1)]) _
    refine XS.iconst X1.here hx rfl (hb hby d11_68) ?_
    show SS p e below T1 (mkF m 69 #[vi (3 : Int32), vi p1, vi p2, vi p3, vi p4, vi p5, vi p6] [(.int (3 : Int32)), (.ref b1), (.ref b1)]) _
    refine st3 _ ?_
    show SS p e below T3 (mkF m 71 #[vi (3 : Int32), vi p1, vi p2, vi p3, vi p4, vi p5, vi p6] [(.ref b3), (.ref b1), (.ref b1)]) _
    refine XS.dup X3.here hx rfl (hb hby d11_71) rfl rfl ?_
    show SS p e below T3 (mkF m 72 #[vi (3 : Int32), vi p1, vi p2, vi p3, vi p4, vi p5, vi p6] [(.ref b3), (.ref b3), (.ref b1), (.ref b1)]) _
    refine XS.iconst X3.here hx rfl (hb hby d11_72) ?_
    show SS p e below T3 (mkF m 73 #[vi (3 : Int32), vi p1, vi p2, vi p3, vi p4, vi p5, vi p6] [(.int (0 : Int32)), (.ref b3), (.ref b3), (.ref b1), (.ref b1)]) _
    refine XS.iloadN X3.here hx rfl (hb hby d11_73) rfl ?_
    show SS p e below T3 (mkF m 74 #[vi (3 : Int32), vi p1, vi p2, vi p3, vi p4, vi p5, vi p6] [(.int p1), (.int (0 : Int32)), (.ref b3), (.ref b3), (.ref b1), (.ref b1)]) _
    refine st5 _ ?_
    show SS p e below T5 (mkF m 75 #[vi (3 : Int32), vi p1, vi p2, vi p3, vi p4, vi p5, vi p6] [(.ref b3), (.ref b1), (.ref b1)]) _
    refine XS.dup X5.here hx rfl (hb hby d11_75) rfl rfl ?_
    show SS p e below T5 (mkF m 76 #[vi (3 : Int32), vi p1, vi p2, vi p3, vi p4, vi p5, vi p6] [(.ref b3), (.ref b3), (.ref b1), (.ref b1)]) _
    refine XS.iconst X5.here hx rfl (hb hby d11_76) ?_
    show SS p e below T5 (mkF m 77 #[vi (3 : Int32), vi p1, vi p2, vi p3, vi p4, vi p5, vi p6] [(.int (1 : Int32)), (.ref b3), (.ref b3), (.ref b1), (.ref b1)]) _
    refine XS.iloadN X5.here hx rfl (hb hby d11_77) rfl ?_
    show SS p e below T5 (mkF m 78 #[vi (3 : Int32), vi p1, vi p2, vi p3, vi p4, vi p5, vi p6] [(.int p2), (.int (1 : Int32)), (.ref b3), (.ref b3), (.ref b1), (.ref b1)]) _
    refine st7 _ ?_
    show SS p e below T7 (mkF m 79 #[vi (3 : Int32), vi p1, vi p2, vi p3, vi p4, vi p5, vi p6] [(.ref b3), (.ref b1), (.ref b1)]) _
    refine XS.dup X7.here hx rfl (hb hby d11_79) rfl rfl ?_
    show SS p e below T7 (mkF m 80 #[vi (3 : Int32), vi p1, vi p2, vi p3, vi p4, vi p5, vi p6] [(.ref b3), (.ref b3), (.ref b1), (.ref b1)]) _
    refine XS.iconst X7.here hx rfl (hb hby d11_80) ?_
    show SS p e below T7 (mkF m 81 #[vi (3 : Int32), vi p1, vi p2, vi p3, vi p4, vi p5, vi p6] [(.int (2 : Int32)), (.ref b3), (.ref b3), (.ref b1), (.ref b1)]) _
    refine XS.iloadN X7.here hx rfl (hb hby d11_81) rfl ?_
    show SS p e below T7 (mkF m 82 #[vi (3 : Int32), vi p1, vi p2, vi p3, vi p4, vi p5, vi p6] [(.int p3), (.int (2 : Int32)), (.ref b3), (.ref b3), (.ref b1), (.ref b1)]) _
    refine st10 _ ?_
    show SS p e below T10 (mkF m 83 #[vi (3 : Int32), vi p1, vi p2, vi p3, vi p4, vi p5, vi p6] [(.ref b3), (.ref b1), (.ref b1)]) _
    refine st13.trans ?_
    show SS p e below T13 (mkF m 86 #[vi (3 : Int32), vi p1, vi p2, vi p3, vi p4, vi p5, vi p6] [(.ref b1)]) _
    exact retOut X13 hx Bd.returns rfl (Or.inr (Or.inr (Or.inr (Or.inr ⟨rfl, rfl, rfl⟩)))) (hb hby d11_86) hr
  · show Q_rmM3 Z p1 p2 p3 p4 p5 p6 zc fm h0 n0 _ T13.heap _
    exact ⟨b1, t13, kt13, rfl, N13, K13, fE13, fC13, fV13, fK13⟩
theorem ef_19 (m : MethodId) (x1 : Int32) (x2 : Int32) (x3 : Int32) (x4 : Int32) (x5 : Int32) (x6 : Int32) : entryFrame m #[(.int (4 : Int32)), (.int x1), (.int x2), (.int x3), (.int x4), (.int x5), (.int x6)] 7 = mkF m 0 #[vi (4 : Int32), vi x1, vi x2, vi x3, vi x4, vi x5, vi x6] [] := by first | (simp [entryFrame, mkF, argsToLocals, Value.category]; done) | rfl
theorem d11_87 : decode method_6_code 87 = .ok (.iload_n 0, 1) := by decide +kernel
theorem d11_88 : decode method_6_code 88 = .ok (.iconst 4, 1) := by decide +kernel
theorem d11_89 : decode method_6_code 89 = .ok (.if_icmp .ne 31, 3) := by decide +kernel
theorem d11_92 : decode method_6_code 92 = .ok (.new 28, 3) := by decide +kernel
theorem d11_95 : decode method_6_code 95 = .ok (.dup, 1) := by decide +kernel
theorem d11_96 : decode method_6_code 96 = .ok (.iconst 4, 1) := by decide +kernel
theorem d11_97 : decode method_6_code 97 = .ok (.newarray .char, 2) := by decide +kernel
theorem d11_99 : decode method_6_code 99 = .ok (.dup, 1) := by decide +kernel
theorem d11_100 : decode method_6_code 100 = .ok (.iconst 0, 1) := by decide +kernel
theorem d11_101 : decode method_6_code 101 = .ok (.iload_n 1, 1) := by decide +kernel
theorem d11_102 : decode method_6_code 102 = .ok (.castore, 1) := by decide +kernel
theorem d11_103 : decode method_6_code 103 = .ok (.dup, 1) := by decide +kernel
theorem d11_104 : decode method_6_code 104 = .ok (.iconst 1, 1) := by decide +kernel
theorem d11_105 : decode method_6_code 105 = .ok (.iload_n 2, 1) := by decide +kernel
theorem d11_106 : decode method_6_code 106 = .ok (.castore, 1) := by decide +kernel
theorem d11_107 : decode method_6_code 107 = .ok (.dup, 1) := by decide +kernel
theorem d11_108 : decode method_6_code 108 = .ok (.iconst 2, 1) := by decide +kernel
theorem d11_109 : decode method_6_code 109 = .ok (.iload_n 3, 1) := by decide +kernel
theorem d11_110 : decode method_6_code 110 = .ok (.castore, 1) := by decide +kernel
theorem d11_111 : decode method_6_code 111 = .ok (.dup, 1) := by decide +kernel
theorem d11_112 : decode method_6_code 112 = .ok (.iconst 3, 1) := by decide +kernel
theorem d11_113 : decode method_6_code 113 = .ok (.iload 4, 2) := by decide +kernel
theorem d11_115 : decode method_6_code 115 = .ok (.castore, 1) := by decide +kernel
theorem d11_116 : decode method_6_code 116 = .ok (.invokespecial 49, 3) := by decide +kernel
theorem d11_119 : decode method_6_code 119 = .ok (.areturn, 1) := by decide +kernel
def Q_rmM4 (Z : State) (p1 : Int32) (p2 : Int32) (p3 : Int32) (p4 : Int32) (p5 : Int32) (p6 : Int32) (zc : Int32) (fm : Value) (h0 : Heap) (n0 : Nat) (v : Option Value) (h : Heap) (L : List Loc) : Prop := ∃ (nx : Addr), ∃ (nt : Addr), ∃ (nk : ClassId), (v = some (.ref nx) ∧ Fr n0 L ∧ Keep h0 h [] ∧ Exa Z h nx "java/lang/String" ∧ Fld Z h nx "java/lang/String" "coder" "B" (.int (0 : Int32)) ∧ Fld Z h nx "java/lang/String" "value" "[B" (.ref nt) ∧ Arv Z h nt nk .byte (4 : Int32) ((([p1, p2, p3, p4] : List Int32).map (fun c => c.toInt8.toInt32)).map Value.int) (.int (0 : Int32)))
set_option maxRecDepth 65536 in
set_option maxHeartbeats 40000000 in
theorem rmM4 (l : Launch) (Z : State) (a0 : Array Value) (hw : ∀ d ∈ tables_1, d.before a0 Z = true) (ws : List Jvm.Cond) (p1 : Int32) (p2 : Int32) (p3 : Int32) (p4 : Int32) (p5 : Int32) (p6 : Int32) (zc : Int32) (fm : Value) (h0 : Heap) (n0 : Nat) (Z0 : n0 ≤ h0.size) (uO : Old Z n0 h0) (uS : Sta Z Z.heap "java/lang/String" "COMPACT_STRINGS" "Z" (.int zc)) (uF : Sta Z Z.heap "jdk/internal/util/Preconditions" "SIOOBE_FORMATTER" "Ljava/util/function/BiFunction;" fm) (uP : ¬ zc = 0) (uR : fm.isRef = true) (ub_p1 : ¬ p1 < 0 ∧ ¬ (255 : Int32) < p1) (ub_p2 : ¬ p2 < 0 ∧ ¬ (255 : Int32) < p2) (ub_p3 : ¬ p3 < 0 ∧ ¬ (255 : Int32) < p3) (ub_p4 : ¬ p4 < 0 ∧ ¬ (255 : Int32) < p4) (ub_p5 : ¬ p5 < 0 ∧ ¬ (255 : Int32) < p5) (ub_p6 : ¬ p6 < 0 ∧ ¬ (255 : Int32) < p6) :
    MetFree l (⟨"com/example/wireform/wireform/json/JsonIsReservedPinLaw", "make", "(ICCCCCC)Ljava/lang/String;"⟩ : MethodName) (head1 (Jvm.Cond.code (⟨"com/example/wireform/wireform/json/JsonIsReservedPinLaw", "make", "(ICCCCCC)Ljava/lang/String;"⟩ : MethodName) method_6_code 7 (some (.object "java/lang/String")) :: ws) ({ frames := 4, cells := 3, slots := 12, locals := 66 } : Room)) (fun a U => a = #[(.int (4 : Int32)), (.int p1), (.int p2), (.int p3), (.int p4), (.int p5), (.int p6)] ∧ Z.Warmed39 U.vm ∧ U.heap = h0 ∧ CHv Z own_EL U.vm h0) (fun _ _ _ _ _ => True) (fun _ U o U' => ∃ v L, o = .returned v ∧ Q_rmM4 Z p1 p2 p3 p4 p5 p6 zc fm h0 n0 v U'.heap L ∧ CHr Z own_EL U.vm U.heap U'.vm U'.heap ∧ ReturnedEndW U o U' L ({ frames := 4, cells := 3, slots := 12, locals := 66 } : Room).cells ({ frames := 4, cells := 3, slots := 12, locals := 66 } : Room).slots) := by
  refine MetFree.of_bodySF (plainFor_of_name pn_0) hisR ?_
  intro p e s m args below meth c s₁ Bd hml0 hP hK
  obtain ⟨rfl, hZ, hh, hC0⟩ := hP
  have hx := Bd.exec
  have hby := Bd.bytes
  have hml : c.maxLocals = 7 := hml0
  have hown : s.vm.findClass "com/example/wireform/wireform/json/JsonIsReservedPinLaw" = some m.cls := findClass_of_methodNamed Bd.named
  have hnm := (name_of_methodNamed Bd.named Bd.method).1
  have X0 : Stand p l e ({ frames := 4, cells := 3, slots := 12, locals := 66 } : Room) (s.setVm s.vm) m #[(.int (4 : Int32)), (.int p1), (.int p2), (.int p3), (.int p4), (.int p5), (.int p6)] below meth c s₁ [] 0 0 := Stand.of_body Bd
  have e0 : s₁.heap = h0 := by rw [← hh, Bd.state]; rfl
  have N0 := Fr.nil n0
  have pre0 : ∀ t, Steps p.tables e below (s₁.setTop (mkF m 0 #[vi (4 : Int32), vi p1, vi p2, vi p3, vi p4, vi p5, vi p6] [])) t → Steps p.tables e below (s₁.setTop (entryFrame m #[(.int (4 : Int32)), (.int p1), (.int p2), (.int p3), (.int p4), (.int p5), (.int p6)] 7)) t := fun t k => castTop (ef_19 m p1 p2 p3 p4 p5 p6) k
  have hS0 : s.Since s.vm 0 := (State.WarmedH.refl s).since _
  have hk0 : 0 ≤ h0.size := Nat.zero_le _
  have R0 := CHr.refl hC0
  have own_hp : ∀ c ∈ ([p1, p2, p3, p4] : List Int32), ¬ c < 0 ∧ ¬ (255 : Int32) < c := by
    intro c hc
    simp only [List.mem_cons, List.not_mem_nil, or_false] at hc
    rcases hc with rfl | rfl | rfl | rfl
    · exact ub_p1
    · exact ub_p2
    · exact ub_p3
    · exact ub_p4
  obtain ⟨T1, h1, X1, e1, E1, A1, D1, Un1, st1⟩ := newO X0 hx hZ hown (wd hw 57 rfl) (wd hw 13 rfl) (wd hw 12 rfl) e0 (g := (mkF m 92 #[vi (4 : Int32), vi p1, vi p2, vi p3, vi p4, vi p5, vi p6] [])) rfl (hb hby d11_92) (by decide) (by decide)
  obtain ⟨b1, g1⟩ : ∃ z, z = h0.size := ⟨_, rfl⟩
  rw [← g1] at A1 D1 Un1 st1
  have Re2 := R0.trans (CHr.ext E1 hC0)
  have hCe2 := Re2.1
  have sf1 := Safe.ext E1 hC0 (Safe.new (Nat.le_of_eq g1.symm))
  have F1_value : Fld Z h1 b1 "java/lang/String" "value" "[B" .null := D1 (Or.inr (wd hw 15 rfl)) (ty := (.array .byte)) (by decide)
  have F1_coder : Fld Z h1 b1 "java/lang/String" "coder" "B" (.int (0 : Int32)) := D1 (Or.inr (wd hw 16 rfl)) (ty := .byte) (by decide)
  have g_b1 : n0 ≤ b1 := Nat.le_trans Z0 (Nat.le_of_eq g1.symm)
  have sz_b1 : h0.size ≤ b1 := Nat.le_trans (Keep.refl h0 []).1 (Nat.le_of_eq g1.symm)
  have K1 : Keep h0 h1 [] := (Keep.refl h0 []).ext E1
  have Z1 : n0 ≤ h1.size := Nat.le_trans Z0 E1.1
  have hk1 : _ ≤ h1.size := Nat.le_trans hk0 E1.1
  obtain ⟨T3, h3, k3, X3, e3, E3, A3, AX3, st3⟩ := newPE X1 hx hZ (wd hw 58 rfl) e1 (g := (mkF m 97 #[vi (4 : Int32), vi p1, vi p2, vi p3, vi p4, vi p5, vi p6] [(.int (4 : Int32)), (.ref b1), (.ref b1)])) rfl (hb hby d11_97) rfl (by decide) (cap := 4) (by decide) (by decide) (by decide) (by decide) (ad := "[C") (by decide)
  obtain ⟨b3, g3⟩ : ∃ z, z = h1.size := ⟨_, rfl⟩
  rw [← g3] at A3 AX3 st3
  have ne_b1_b3 : b1 ≠ b3 := Nat.ne_of_lt (Nat.lt_of_lt_of_le A1.lt (Nat.le_of_eq g3.symm))
  have Re4 := Re2.trans (CHr.ext E3 hCe2)
  have hCe4 := Re4.1
  have V3 : Arv Z h3 b3 k3 .char (4 : Int32) [(.int (0 : Int32)), (.int (0 : Int32)), (.int (0 : Int32)), (.int (0 : Int32))] (.int (0 : Int32)) := (Arv.new A3 (by decide)).pad (pad_rep [] (.int (0 : Int32)) 4)
  have g_b3 : n0 ≤ b3 := Nat.le_trans Z1 (Nat.le_of_eq g3.symm)
  have sz_b3 : h0.size ≤ b3 := Nat.le_trans K1.1 (Nat.le_of_eq g3.symm)
  have K3 : Keep h0 h3 [] := K1.ext E3
  have Z3 : n0 ≤ h3.size := Nat.le_trans Z1 E3.1
  have hk3 : _ ≤ h3.size := Nat.le_trans hk1 E3.1
  obtain ⟨cl5, Ar5, q5, S5, Nn5, H5, G5⟩ := (id V3)
  have hin5 : ¬ ((0 : Int32) < 0 ∨ cl5.slots.size ≤ ((0 : Int32)).toNatClampNeg) := inb_of S5 ⟨by decide, by decide⟩
  obtain ⟨T5, h5, X5, e5, W5, st5⟩ := stC X3 hx hZ e3 Ar5 (j := (0 : Int32)) hin5 (g := (mkF m 102 #[vi (4 : Int32), vi p1, vi p2, vi p3, vi p4, vi p5, vi p6] [(.int p1), (.int (0 : Int32)), (.ref b3), (.ref b3), (.ref b1), (.ref b1)])) rfl rfl (hb hby d11_102)
  have Re6 := Re4.trans (CHr.wr W5 (Safe.exa hZ.alike AX3 (by decide) (by decide)) hCe4)
  have hCe6 := Re6.1
  have V5 : Arv Z h5 b3 k3 .char (4 : Int32) [(.int (nar .char p1)), (.int (0 : Int32)), (.int (0 : Int32)), (.int (0 : Int32))] (.int (0 : Int32)) := Arv.set Ar5 q5 S5 Nn5 H5 G5 (fits_nar_char _) W5 0 rfl (Nat.le_of_ble_eq_true rfl)
  have Vn5 : Arv Z h5 b3 k3 .char (4 : Int32) [(.int p1), (.int (0 : Int32)), (.int (0 : Int32)), (.int (0 : Int32))] (.int (0 : Int32)) := by have q := V5; rw [(own_ne ub_p1)] at q; exact q
  have N5 := Fr.snoc X5 N0 g_b3
  have K5 : Keep h0 h5 [] := K3.wr W5 (Or.inr sz_b3)
  have Z5 : n0 ≤ h5.size := by rw [W5.size]; exact Z3
  have hk5 := own_szW W5 hk3
  obtain ⟨cl7, Ar7, q7, S7, Nn7, H7, G7⟩ := (id Vn5)
  have hin7 : ¬ ((1 : Int32) < 0 ∨ cl7.slots.size ≤ ((1 : Int32)).toNatClampNeg) := inb_of S7 ⟨by decide, by decide⟩
  obtain ⟨T7, h7, X7, e7, W7, st7⟩ := stC X5 hx hZ e5 Ar7 (j := (1 : Int32)) hin7 (g := (mkF m 106 #[vi (4 : Int32), vi p1, vi p2, vi p3, vi p4, vi p5, vi p6] [(.int p2), (.int (1 : Int32)), (.ref b3), (.ref b3), (.ref b1), (.ref b1)])) rfl rfl (hb hby d11_106)
  have c8 := (AX3.wr W5)
  have Re9 := Re6.trans (CHr.wr W7 (Safe.exa hZ.alike c8 (by decide) (by decide)) hCe6)
  have hCe9 := Re9.1
  have V7 : Arv Z h7 b3 k3 .char (4 : Int32) [(.int p1), (.int (nar .char p2)), (.int (0 : Int32)), (.int (0 : Int32))] (.int (0 : Int32)) := Arv.set Ar7 q7 S7 Nn7 H7 G7 (fits_nar_char _) W7 1 rfl (Nat.le_of_ble_eq_true rfl)
  have Vn7 : Arv Z h7 b3 k3 .char (4 : Int32) [(.int p1), (.int p2), (.int (0 : Int32)), (.int (0 : Int32))] (.int (0 : Int32)) := by have q := V7; rw [(own_ne ub_p2)] at q; exact q
  have N7 := Fr.snoc X7 N5 g_b3
  have K7 : Keep h0 h7 [] := K5.wr W7 (Or.inr sz_b3)
  have Z7 : n0 ≤ h7.size := by rw [W7.size]; exact Z5
  have hk7 := own_szW W7 hk5
  obtain ⟨cl10, Ar10, q10, S10, Nn10, H10, G10⟩ := (id Vn7)
  have hin10 : ¬ ((2 : Int32) < 0 ∨ cl10.slots.size ≤ ((2 : Int32)).toNatClampNeg) := inb_of S10 ⟨by decide, by decide⟩
  obtain ⟨T10, h10, X10, e10, W10, st10⟩ := stC X7 hx hZ e7 Ar10 (j := (2 : Int32)) hin10 (g := (mkF m 110 #[vi (4 : Int32), vi p1, vi p2, vi p3, vi p4, vi p5, vi p6] [(.int p3), (.int (2 : Int32)), (.ref b3), (.ref b3), (.ref b1), (.ref b1)])) rfl rfl (hb hby d11_110)
  have c11 := (c8.wr W7)
  have Re12 := Re9.trans (CHr.wr W10 (Safe.exa hZ.alike c11 (by decide) (by decide)) hCe9)
  have hCe12 := Re12.1
  have V10 : Arv Z h10 b3 k3 .char (4 : Int32) [(.int p1), (.int p2), (.int (nar .char p3)), (.int (0 : Int32))] (.int (0 : Int32)) := Arv.set Ar10 q10 S10 Nn10 H10 G10 (fits_nar_char _) W10 2 rfl (Nat.le_of_ble_eq_true rfl)
  have Vn10 : Arv Z h10 b3 k3 .char (4 : Int32) [(.int p1), (.int p2), (.int p3), (.int (0 : Int32))] (.int (0 : Int32)) := by have q := V10; rw [(own_ne ub_p3)] at q; exact q
  have N10 := Fr.snoc X10 N7 g_b3
  have K10 : Keep h0 h10 [] := K7.wr W10 (Or.inr sz_b3)
  have Z10 : n0 ≤ h10.size := by rw [W10.size]; exact Z7
  have hk10 := own_szW W10 hk7
  obtain ⟨cl13, Ar13, q13, S13, Nn13, H13, G13⟩ := (id Vn10)
  have hin13 : ¬ ((3 : Int32) < 0 ∨ cl13.slots.size ≤ ((3 : Int32)).toNatClampNeg) := inb_of S13 ⟨by decide, by decide⟩
  obtain ⟨T13, h13, X13, e13, W13, st13⟩ := stC X10 hx hZ e10 Ar13 (j := (3 : Int32)) hin13 (g := (mkF m 115 #[vi (4 : Int32), vi p1, vi p2, vi p3, vi p4, vi p5, vi p6] [(.int p4), (.int (3 : Int32)), (.ref b3), (.ref b3), (.ref b1), (.ref b1)])) rfl rfl (hb hby d11_115)
  have c14 := (c11.wr W10)
  have Re15 := Re12.trans (CHr.wr W13 (Safe.exa hZ.alike c14 (by decide) (by decide)) hCe12)
  have hCe15 := Re15.1
  have V13 : Arv Z h13 b3 k3 .char (4 : Int32) [(.int p1), (.int p2), (.int p3), (.int (nar .char p4))] (.int (0 : Int32)) := Arv.set Ar13 q13 S13 Nn13 H13 G13 (fits_nar_char _) W13 3 rfl (Nat.le_of_ble_eq_true rfl)
  have Vn13 : Arv Z h13 b3 k3 .char (4 : Int32) [(.int p1), (.int p2), (.int p3), (.int p4)] (.int (0 : Int32)) := by have q := V13; rw [(own_ne ub_p4)] at q; exact q
  have N13 := Fr.snoc X13 N10 g_b3
  have K13 : Keep h0 h13 [] := K10.wr W13 (Or.inr sz_b3)
  have Z13 : n0 ≤ h13.size := by rw [W13.size]; exact Z10
  have hk13 := own_szW W13 hk10
  have c17 := (((((A1.ext E3).wr W5).wr W7).wr W10).wr W13)
  have c18 := (((((F1_value.ext E3).other W5 (Or.inl ne_b1_b3)).other W7 (Or.inl ne_b1_b3)).other W10 (Or.inl ne_b1_b3)).other W13 (Or.inl ne_b1_b3))
  have c19 := (((((F1_coder.ext E3).other W5 (Or.inl ne_b1_b3)).other W7 (Or.inl ne_b1_b3)).other W10 (Or.inl ne_b1_b3)).other W13 (Or.inl ne_b1_b3))
  have c20 := ((((((uO.ext E1).ext E3).wr W5 g_b3).wr W7 g_b3).wr W10 g_b3).wr W13 g_b3)
  obtain ⟨_, _, ⟨T16, Lw16, kw16, nw16⟩, -, X16, ⟨Lc16, hQ16, lq16, yq16, zq16⟩, st16⟩ := X13.specialBack hx (y := (⟨"java/lang/String", "<init>", "([C)V"⟩ : MethodName)) rfl hown (mvT hZ (wd hw 59 rfl)) (mvT hZ (wd hw 60 rfl)) (mvT hZ (wd hw 61 rfl)) (by decide) (StrChars.Road.backV (W := 1) hZ (fun d hd => hw d (own_w_words d hd)) (kI := 4) (wd hw 13 rfl) (cs := ([p1, p2, p3, p4] : List Int32)) (bs := (([p1, p2, p3, p4] : List Int32).map (fun c => c.toInt8.toInt32))) (n := 4) g_b1 Z13 c17 c18 c19 Vn13 (uS.ext c20.2) uP rfl rfl (by decide) (by decide) own_hp rfl (by decide) (by decide)) (g := (mkF m 116 #[vi (4 : Int32), vi p1, vi p2, vi p3, vi p4, vi p5, vi p6] [(.ref b3), (.ref b1), (.ref b1)])) rfl (by rw [hml]; rfl) (Steps.refl _) (a := b1) (argsL := [(.ref b3)]) (rest := [(.ref b1)]) (lenOf pd_5 rfl) rfl (by show 2 * 0 + _ ≤ _; exact Nat.le_of_eq rfl) (hb hby d11_116) (fun _ _ => ⟨rfl, e13, (by decide : 2 + 1 ≤ _), (by decide : 8 + 4 ≤ _)⟩)
  dsimp only [Pt.U, Pt.locs, Pt.cells, Pt.slots] at X16 lq16 yq16 zq16 st16 hQ16
  have X16 := own_reb X16 lq16 yq16 zq16
  obtain ⟨rfl, Nq16, Kq16, fE16, fC16, t16, kt16, u116, u216, u316, fV16, fK16⟩ := hQ16
  have N16 := Fr.app N13 Nq16
  have ne_b1_t16 : b1 ≠ t16 := Nat.ne_of_lt (Nat.lt_of_lt_of_le c17.lt u216)
  have ne_b3_t16 : b3 ≠ t16 := Nat.ne_of_lt (Nat.lt_of_lt_of_le Vn13.lt u216)
  have sz_t16 : h0.size ≤ t16 := Nat.le_trans K13.1 u216
  have c21 := (Safe.wr W13 (Safe.exa hZ.alike c14 (by decide) (by decide)) hCe12 (Safe.wr W10 (Safe.exa hZ.alike c11 (by decide) (by decide)) hCe9 (Safe.wr W7 (Safe.exa hZ.alike c8 (by decide) (by decide)) hCe6 (Safe.wr W5 (Safe.exa hZ.alike AX3 (by decide) (by decide)) hCe4 (Safe.ext E3 hCe2 sf1)))))
  have Re22 := Re15.trans (CHr.keep Kq16 (allS c21 all0) hCe15)
  have hCe22 := Re22.1
  have sf16 := Safe.keep Kq16 (allS c21 all0) hCe15 (Safe.new u216)
  have K16 : Keep h0 T16.heap [] := K13.trans Kq16 (allS (Or.inr sz_b1) all0)
  have Z16 : n0 ≤ T16.heap.size := Nat.le_trans Z13 Kq16.1
  have hk16 : _ ≤ T16.heap.size := Nat.le_trans hk13 Kq16.1
  obtain ⟨fs, hr, hrun, hended, en1, en2, en3, en4⟩ := X16.leaveW hS0 (own_hk rfl hk16) (v := some (.ref b1)) (fun h => by rw [Bd.returns] at h; cases h)
  refine ⟨_, _, pre0 _ ?_, hrun, hended, _, _, rfl, ?_, own_chr (T := T16) hh rfl (Re22.trans (CHv.at X16 hZ (own_EW hw) hCe22)), en1, en2, en3, en4.mono (by decide) (by decide)⟩
  · show SS p e below s₁ (mkF m 0 #[vi (4 : Int32), vi p1, vi p2, vi p3, vi p4, vi p5, vi p6] []) _
    refine XS.iloadN X0.here hx rfl (hb hby d11_0) rfl ?_
    show SS p e below s₁ (mkF m 1 #[vi (4 : Int32), vi p1, vi p2, vi p3, vi p4, vi p5, vi p6] [(.int (4 : Int32))]) _
    refine XS.ifYes X0.here hx rfl (pc0 := 1) (pc' := 15) rfl (hb hby d11_1) rfl ((if0 _ _).trans (feq (by decide : ¬ ((4 : Int32) = (0 : Int32)))).2) (by decide) (by decide) ?_
    show SS p e below s₁ (mkF m 15 #[vi (4 : Int32), vi p1, vi p2, vi p3, vi p4, vi p5, vi p6] []) _
    refine XS.iloadN X0.here hx rfl (hb hby d11_15) rfl ?_
    show SS p e below s₁ (mkF m 16 #[vi (4 : Int32), vi p1, vi p2, vi p3, vi p4, vi p5, vi p6] [(.int (4 : Int32))]) _
    refine XS.iconst X0.here hx rfl (hb hby d11_16) ?_
    show SS p e below s₁ (mkF m 17 #[vi (4 : Int32), vi p1, vi p2, vi p3, vi p4, vi p5, vi p6] [(.int (1 : Int32)), (.int (4 : Int32))]) _
    refine XS.icmpYes X0.here hx rfl (pc0 := 17) (pc' := 35) rfl (hb hby d11_17) rfl (feq (by decide : ¬ ((4 : Int32) = (1 : Int32)))).2 (by decide) (by decide) ?_
    show SS p e below s₁ (mkF m 35 #[vi (4 : Int32), vi p1, vi p2, vi p3, vi p4, vi p5, vi p6] []) _
    refine XS.iloadN X0.here hx rfl (hb hby d11_35) rfl ?_
    show SS p e below s₁ (mkF m 36 #[vi (4 : Int32), vi p1, vi p2, vi p3, vi p4, vi p5, vi p6] [(.int (4 : Int32))]) _
    refine XS.iconst X0.here hx rfl (hb hby d11_36) ?_
    show SS p e below s₁ (mkF m 37 #[vi (4 : Int32), vi p1, vi p2, vi p3, vi p4, vi p5, vi p6] [(.int (2 : Int32)), (.int (4 : Int32))]) _
    refine XS.icmpYes X0.here hx rfl (pc0 := 37) (pc' := 59) rfl (hb hby d11_37) rfl (feq (by decide : ¬ ((4 : Int32) = (2 : Int32)))).2 (by decide) (by decide) ?_
    show SS p e below s₁ (mkF m 59 #[vi (4 : Int32), vi p1, vi p2, vi p3, vi p4, vi p5, vi p6] []) _
    refine XS.iloadN X0.here hx rfl (hb hby d11_59) rfl ?_
    show SS p e below s₁ (mkF m 60 #[vi (4 : Int32), vi p1, vi p2, vi p3, vi p4, vi p5, vi p6] [(.int (4 : Int32))]) _
    refine XS.iconst X0.here hx rfl (hb hby d11_60) ?_
    show SS p e below s₁ (mkF m 61 #[vi (4 : Int32), vi p1, vi p2, vi p3, vi p4, vi p5, vi p6] [(.int (3 : Int32)), (.int (4 : Int32))]) _
    refine XS.icmpYes X0.here hx rfl (pc0 := 61) (pc' := 87) rfl (hb hby d11_61) rfl (feq (by decide : ¬ ((4 : Int32) = (3 : Int32)))).2 (by decide) (by decide) ?_
    show SS p e below s₁ (mkF m 87 #[vi (4 : Int32), vi p1, vi p2, vi p3, vi p4, vi p5, vi p6] []) _
    refine XS.iloadN X0.here hx rfl (hb hby d11_87) rfl ?_
    show SS p e below s₁ (mkF m 88 #[vi (4 : Int32), vi p1, vi p2, vi p3, vi p4, vi p5, vi p6] [(.int (4 : Int32))]) _
    refine XS.iconst X0.here hx rfl (hb hby d11_88) ?_
    show SS p e below s₁ (mkF m 89 #[vi (4 : Int32), vi p1, vi p2, vi p3, vi p4, vi p5, vi p6] [(.int (4 : Int32)), (.int (4 : Int32))]) _
    refine XS.icmpNo X0.here hx rfl (hb hby d11_89) rfl (teq (by decide : (4 : Int32) = (4 : Int32))).2 ?_
    show SS p e below s₁ (mkF m 92 #[vi (4 : Int32), vi p1, vi p2, vi p3, vi p4, vi p5, vi p6] []) _
    refine st1 _ ?_
    show SS p e below T1 (mkF m 95 #[vi (4 : Int32), vi p1, vi p2, vi p3, vi p4, vi p5, vi p6] [(.ref b1)]) _
    refine XS.dup X1.here hx rfl (hb hby d11_95) rfl rfl ?_
    show SS p e below T1 (mkF m 96 #[vi (4 : Int32), vi p1, vi p2, vi p3, vi p4, vi p5, vi p6] [(.ref b1), (.ref b1)]) _
    refine XS.iconst X1.here hx rfl (hb hby d11_96) ?_
    show SS p e below T1 (mkF m 97 #[vi (4 : Int32), vi p1, vi p2, vi p3, vi p4, vi p5, vi p6] [(.int (4 : Int32)), (.ref b1), (.ref b1)]) _
    refine st3 _ ?_
    show SS p e below T3 (mkF m 99 #[vi (4 : Int32), vi p1, vi p2, vi p3, vi p4, vi p5, vi p6] [(.ref b3), (.ref b1), (.ref b1)]) _
    refine XS.dup X3.here hx rfl (hb hby d11_99) rfl rfl ?_
    show SS p e below T3 (mkF m 100 #[vi (4 : Int32), vi p1, vi p2, vi p3, vi p4, vi p5, vi p6] [(.ref b3), (.ref b3), (.ref b1), (.ref b1)]) _
    refine XS.iconst X3.here hx rfl (hb hby d11_100) ?_
    show SS p e below T3 (mkF m 101 #[vi (4 : Int32), vi p1, vi p2, vi p3, vi p4, vi p5, vi p6] [(.int (0 : Int32)), (.ref b3), (.ref b3), (.ref b1), (.ref b1)]) _
    refine XS.iloadN X3.here hx rfl (hb hby d11_101) rfl ?_
    show SS p e below T3 (mkF m 102 #[vi (4 : Int32), vi p1, vi p2, vi p3, vi p4, vi p5, vi p6] [(.int p1), (.int (0 : Int32)), (.ref b3), (.ref b3), (.ref b1), (.ref b1)]) _
    refine st5 _ ?_
    show SS p e below T5 (mkF m 103 #[vi (4 : Int32), vi p1, vi p2, vi p3, vi p4, vi p5, vi p6] [(.ref b3), (.ref b1), (.ref b1)]) _
    refine XS.dup X5.here hx rfl (hb hby d11_103) rfl rfl ?_
    show SS p e below T5 (mkF m 104 #[vi (4 : Int32), vi p1, vi p2, vi p3, vi p4, vi p5, vi p6] [(.ref b3), (.ref b3), (.ref b1), (.ref b1)]) _
    refine XS.iconst X5.here hx rfl (hb hby d11_104) ?_
    show SS p e below T5 (mkF m 105 #[vi (4 : Int32), vi p1, vi p2, vi p3, vi p4, vi p5, vi p6] [(.int (1 : Int32)), (.ref b3), (.ref b3), (.ref b1), (.ref b1)]) _
    refine XS.iloadN X5.here hx rfl (hb hby d11_105) rfl ?_
    show SS p e below T5 (mkF m 106 #[vi (4 : Int32), vi p1, vi p2, vi p3, vi p4, vi p5, vi p6] [(.int p2), (.int (1 : Int32)), (.ref b3), (.ref b3), (.ref b1), (.ref b1)]) _
    refine st7 _ ?_
    show SS p e below T7 (mkF m 107 #[vi (4 : Int32), vi p1, vi p2, vi p3, vi p4, vi p5, vi p6] [(.ref b3), (.ref b1), (.ref b1)]) _
    refine XS.dup X7.here hx rfl (hb hby d11_107) rfl rfl ?_
    show SS p e below T7 (mkF m 108 #[vi (4 : Int32), vi p1, vi p2, vi p3, vi p4, vi p5, vi p6] [(.ref b3), (.ref b3), (.ref b1), (.ref b1)]) _
    refine XS.iconst X7.here hx rfl (hb hby d11_108) ?_
    show SS p e below T7 (mkF m 109 #[vi (4 : Int32), vi p1, vi p2, vi p3, vi p4, vi p5, vi p6] [(.int (2 : Int32)), (.ref b3), (.ref b3), (.ref b1), (.ref b1)]) _
    refine XS.iloadN X7.here hx rfl (hb hby d11_109) rfl ?_
    show SS p e below T7 (mkF m 110 #[vi (4 : Int32), vi p1, vi p2, vi p3, vi p4, vi p5, vi p6] [(.int p3), (.int (2 : Int32)), (.ref b3), (.ref b3), (.ref b1), (.ref b1)]) _
    refine st10 _ ?_
    show SS p e below T10 (mkF m 111 #[vi (4 : Int32), vi p1, vi p2, vi p3, vi p4, vi p5, vi p6] [(.ref b3), (.ref b1), (.ref b1)]) _
    refine XS.dup X10.here hx rfl (hb hby d11_111) rfl rfl ?_
    show SS p e below T10 (mkF m 112 #[vi (4 : Int32), vi p1, vi p2, vi p3, vi p4, vi p5, vi p6] [(.ref b3), (.ref b3), (.ref b1), (.ref b1)]) _
    refine XS.iconst X10.here hx rfl (hb hby d11_112) ?_
    show SS p e below T10 (mkF m 113 #[vi (4 : Int32), vi p1, vi p2, vi p3, vi p4, vi p5, vi p6] [(.int (3 : Int32)), (.ref b3), (.ref b3), (.ref b1), (.ref b1)]) _
    refine XS.iload X10.here hx rfl (hb hby d11_113) rfl ?_
    show SS p e below T10 (mkF m 115 #[vi (4 : Int32), vi p1, vi p2, vi p3, vi p4, vi p5, vi p6] [(.int p4), (.int (3 : Int32)), (.ref b3), (.ref b3), (.ref b1), (.ref b1)]) _
    refine st13 _ ?_
    show SS p e below T13 (mkF m 116 #[vi (4 : Int32), vi p1, vi p2, vi p3, vi p4, vi p5, vi p6] [(.ref b3), (.ref b1), (.ref b1)]) _
    refine st16.trans ?_
    show SS p e below T16 (mkF m 119 #[vi (4 : Int32), vi p1, vi p2, vi p3, vi p4, vi p5, vi p6] [(.ref b1)]) _
    exact retOut X16 hx Bd.returns rfl (Or.inr (Or.inr (Or.inr (Or.inr ⟨rfl, rfl, rfl⟩)))) (hb hby d11_119) hr
  · show Q_rmM4 Z p1 p2 p3 p4 p5 p6 zc fm h0 n0 _ T16.heap _
    exact ⟨b1, t16, kt16, rfl, N16, K16, fE16, fC16, fV16, fK16⟩
theorem ef_20 (m : MethodId) (x1 : Int32) (x2 : Int32) (x3 : Int32) (x4 : Int32) (x5 : Int32) (x6 : Int32) : entryFrame m #[(.int (5 : Int32)), (.int x1), (.int x2), (.int x3), (.int x4), (.int x5), (.int x6)] 7 = mkF m 0 #[vi (5 : Int32), vi x1, vi x2, vi x3, vi x4, vi x5, vi x6] [] := by first | (simp [entryFrame, mkF, argsToLocals, Value.category]; done) | rfl
theorem d11_120 : decode method_6_code 120 = .ok (.iload_n 0, 1) := by decide +kernel
theorem d11_121 : decode method_6_code 121 = .ok (.iconst 5, 1) := by decide +kernel
theorem d11_122 : decode method_6_code 122 = .ok (.if_icmp .ne 36, 3) := by decide +kernel
theorem d11_125 : decode method_6_code 125 = .ok (.new 28, 3) := by decide +kernel
theorem d11_128 : decode method_6_code 128 = .ok (.dup, 1) := by decide +kernel
theorem d11_129 : decode method_6_code 129 = .ok (.iconst 5, 1) := by decide +kernel
theorem d11_130 : decode method_6_code 130 = .ok (.newarray .char, 2) := by decide +kernel
theorem d11_132 : decode method_6_code 132 = .ok (.dup, 1) := by decide +kernel
theorem d11_133 : decode method_6_code 133 = .ok (.iconst 0, 1) := by decide +kernel
theorem d11_134 : decode method_6_code 134 = .ok (.iload_n 1, 1) := by decide +kernel
theorem d11_135 : decode method_6_code 135 = .ok (.castore, 1) := by decide +kernel
theorem d11_136 : decode method_6_code 136 = .ok (.dup, 1) := by decide +kernel
theorem d11_137 : decode method_6_code 137 = .ok (.iconst 1, 1) := by decide +kernel
theorem d11_138 : decode method_6_code 138 = .ok (.iload_n 2, 1) := by decide +kernel
theorem d11_139 : decode method_6_code 139 = .ok (.castore, 1) := by decide +kernel
theorem d11_140 : decode method_6_code 140 = .ok (.dup, 1) := by decide +kernel
theorem d11_141 : decode method_6_code 141 = .ok (.iconst 2, 1) := by decide +kernel
theorem d11_142 : decode method_6_code 142 = .ok (.iload_n 3, 1) := by decide +kernel
theorem d11_143 : decode method_6_code 143 = .ok (.castore, 1) := by decide +kernel
theorem d11_144 : decode method_6_code 144 = .ok (.dup, 1) := by decide +kernel
theorem d11_145 : decode method_6_code 145 = .ok (.iconst 3, 1) := by decide +kernel
theorem d11_146 : decode method_6_code 146 = .ok (.iload 4, 2) := by decide +kernel
theorem d11_148 : decode method_6_code 148 = .ok (.castore, 1) := by decide +kernel
theorem d11_149 : decode method_6_code 149 = .ok (.dup, 1) := by decide +kernel
theorem d11_150 : decode method_6_code 150 = .ok (.iconst 4, 1) := by decide +kernel
theorem d11_151 : decode method_6_code 151 = .ok (.iload 5, 2) := by decide +kernel
theorem d11_153 : decode method_6_code 153 = .ok (.castore, 1) := by decide +kernel
theorem d11_154 : decode method_6_code 154 = .ok (.invokespecial 49, 3) := by decide +kernel
theorem d11_157 : decode method_6_code 157 = .ok (.areturn, 1) := by decide +kernel
def Q_rmM5 (Z : State) (p1 : Int32) (p2 : Int32) (p3 : Int32) (p4 : Int32) (p5 : Int32) (p6 : Int32) (zc : Int32) (fm : Value) (h0 : Heap) (n0 : Nat) (v : Option Value) (h : Heap) (L : List Loc) : Prop := ∃ (nx : Addr), ∃ (nt : Addr), ∃ (nk : ClassId), (v = some (.ref nx) ∧ Fr n0 L ∧ Keep h0 h [] ∧ Exa Z h nx "java/lang/String" ∧ Fld Z h nx "java/lang/String" "coder" "B" (.int (0 : Int32)) ∧ Fld Z h nx "java/lang/String" "value" "[B" (.ref nt) ∧ Arv Z h nt nk .byte (5 : Int32) ((([p1, p2, p3, p4, p5] : List Int32).map (fun c => c.toInt8.toInt32)).map Value.int) (.int (0 : Int32)))
set_option maxRecDepth 65536 in
set_option maxHeartbeats 40000000 in
theorem rmM5 (l : Launch) (Z : State) (a0 : Array Value) (hw : ∀ d ∈ tables_1, d.before a0 Z = true) (ws : List Jvm.Cond) (p1 : Int32) (p2 : Int32) (p3 : Int32) (p4 : Int32) (p5 : Int32) (p6 : Int32) (zc : Int32) (fm : Value) (h0 : Heap) (n0 : Nat) (Z0 : n0 ≤ h0.size) (uO : Old Z n0 h0) (uS : Sta Z Z.heap "java/lang/String" "COMPACT_STRINGS" "Z" (.int zc)) (uF : Sta Z Z.heap "jdk/internal/util/Preconditions" "SIOOBE_FORMATTER" "Ljava/util/function/BiFunction;" fm) (uP : ¬ zc = 0) (uR : fm.isRef = true) (ub_p1 : ¬ p1 < 0 ∧ ¬ (255 : Int32) < p1) (ub_p2 : ¬ p2 < 0 ∧ ¬ (255 : Int32) < p2) (ub_p3 : ¬ p3 < 0 ∧ ¬ (255 : Int32) < p3) (ub_p4 : ¬ p4 < 0 ∧ ¬ (255 : Int32) < p4) (ub_p5 : ¬ p5 < 0 ∧ ¬ (255 : Int32) < p5) (ub_p6 : ¬ p6 < 0 ∧ ¬ (255 : Int32) < p6) :
    MetFree l (⟨"com/example/wireform/wireform/json/JsonIsReservedPinLaw", "make", "(ICCCCCC)Ljava/lang/String;"⟩ : MethodName) (head1 (Jvm.Cond.code (⟨"com/example/wireform/wireform/json/JsonIsReservedPinLaw", "make", "(ICCCCCC)Ljava/lang/String;"⟩ : MethodName) method_6_code 7 (some (.object "java/lang/String")) :: ws) ({ frames := 4, cells := 3, slots := 14, locals := 66 } : Room)) (fun a U => a = #[(.int (5 : Int32)), (.int p1), (.int p2), (.int p3), (.int p4), (.int p5), (.int p6)] ∧ Z.Warmed39 U.vm ∧ U.heap = h0 ∧ CHv Z own_EL U.vm h0) (fun _ _ _ _ _ => True) (fun _ U o U' => ∃ v L, o = .returned v ∧ Q_rmM5 Z p1 p2 p3 p4 p5 p6 zc fm h0 n0 v U'.heap L ∧ CHr Z own_EL U.vm U.heap U'.vm U'.heap ∧ ReturnedEndW U o U' L ({ frames := 4, cells := 3, slots := 14, locals := 66 } : Room).cells ({ frames := 4, cells := 3, slots := 14, locals := 66 } : Room).slots) := by
  refine MetFree.of_bodySF (plainFor_of_name pn_0) hisR ?_
  intro p e s m args below meth c s₁ Bd hml0 hP hK
  obtain ⟨rfl, hZ, hh, hC0⟩ := hP
  have hx := Bd.exec
  have hby := Bd.bytes
  have hml : c.maxLocals = 7 := hml0
  have hown : s.vm.findClass "com/example/wireform/wireform/json/JsonIsReservedPinLaw" = some m.cls := findClass_of_methodNamed Bd.named
  have hnm := (name_of_methodNamed Bd.named Bd.method).1
  have X0 : Stand p l e ({ frames := 4, cells := 3, slots := 14, locals := 66 } : Room) (s.setVm s.vm) m #[(.int (5 : Int32)), (.int p1), (.int p2), (.int p3), (.int p4), (.int p5), (.int p6)] below meth c s₁ [] 0 0 := Stand.of_body Bd
  have e0 : s₁.heap = h0 := by rw [← hh, Bd.state]; rfl
  have N0 := Fr.nil n0
  have pre0 : ∀ t, Steps p.tables e below (s₁.setTop (mkF m 0 #[vi (5 : Int32), vi p1, vi p2, vi p3, vi p4, vi p5, vi p6] [])) t → Steps p.tables e below (s₁.setTop (entryFrame m #[(.int (5 : Int32)), (.int p1), (.int p2), (.int p3), (.int p4), (.int p5), (.int p6)] 7)) t := fun t k => castTop (ef_20 m p1 p2 p3 p4 p5 p6) k
  have hS0 : s.Since s.vm 0 := (State.WarmedH.refl s).since _
  have hk0 : 0 ≤ h0.size := Nat.zero_le _
  have R0 := CHr.refl hC0
  have own_hp : ∀ c ∈ ([p1, p2, p3, p4, p5] : List Int32), ¬ c < 0 ∧ ¬ (255 : Int32) < c := by
    intro c hc
    simp only [List.mem_cons, List.not_mem_nil, or_false] at hc
    rcases hc with rfl | rfl | rfl | rfl | rfl
    · exact ub_p1
    · exact ub_p2
    · exact ub_p3
    · exact ub_p4
    · exact ub_p5
  obtain ⟨T1, h1, X1, e1, E1, A1, D1, Un1, st1⟩ := newO X0 hx hZ hown (wd hw 57 rfl) (wd hw 13 rfl) (wd hw 12 rfl) e0 (g := (mkF m 125 #[vi (5 : Int32), vi p1, vi p2, vi p3, vi p4, vi p5, vi p6] [])) rfl (hb hby d11_125) (by decide) (by decide)
  obtain ⟨b1, g1⟩ : ∃ z, z = h0.size := ⟨_, rfl⟩
  rw [← g1] at A1 D1 Un1 st1
  have Re2 := R0.trans (CHr.ext E1 hC0)
  have hCe2 := Re2.1
  have sf1 := Safe.ext E1 hC0 (Safe.new (Nat.le_of_eq g1.symm))
  have F1_value : Fld Z h1 b1 "java/lang/String" "value" "[B" .null := D1 (Or.inr (wd hw 15 rfl)) (ty := (.array .byte)) (by decide)
  have F1_coder : Fld Z h1 b1 "java/lang/String" "coder" "B" (.int (0 : Int32)) := D1 (Or.inr (wd hw 16 rfl)) (ty := .byte) (by decide)
  have g_b1 : n0 ≤ b1 := Nat.le_trans Z0 (Nat.le_of_eq g1.symm)
  have sz_b1 : h0.size ≤ b1 := Nat.le_trans (Keep.refl h0 []).1 (Nat.le_of_eq g1.symm)
  have K1 : Keep h0 h1 [] := (Keep.refl h0 []).ext E1
  have Z1 : n0 ≤ h1.size := Nat.le_trans Z0 E1.1
  have hk1 : _ ≤ h1.size := Nat.le_trans hk0 E1.1
  obtain ⟨T3, h3, k3, X3, e3, E3, A3, AX3, st3⟩ := newPE X1 hx hZ (wd hw 58 rfl) e1 (g := (mkF m 130 #[vi (5 : Int32), vi p1, vi p2, vi p3, vi p4, vi p5, vi p6] [(.int (5 : Int32)), (.ref b1), (.ref b1)])) rfl (hb hby d11_130) rfl (by decide) (cap := 5) (by decide) (by decide) (by decide) (by decide) (ad := "[C") (by decide)
  obtain ⟨b3, g3⟩ : ∃ z, z = h1.size := ⟨_, rfl⟩
  rw [← g3] at A3 AX3 st3
  have ne_b1_b3 : b1 ≠ b3 := Nat.ne_of_lt (Nat.lt_of_lt_of_le A1.lt (Nat.le_of_eq g3.symm))
  have Re4 := Re2.trans (CHr.ext E3 hCe2)
  have hCe4 := Re4.1
  have V3 : Arv Z h3 b3 k3 .char (5 : Int32) [(.int (0 : Int32)), (.int (0 : Int32)), (.int (0 : Int32)), (.int (0 : Int32)), (.int (0 : Int32))] (.int (0 : Int32)) := (Arv.new A3 (by decide)).pad (pad_rep [] (.int (0 : Int32)) 5)
  have g_b3 : n0 ≤ b3 := Nat.le_trans Z1 (Nat.le_of_eq g3.symm)
  have sz_b3 : h0.size ≤ b3 := Nat.le_trans K1.1 (Nat.le_of_eq g3.symm)
  have K3 : Keep h0 h3 [] := K1.ext E3
  have Z3 : n0 ≤ h3.size := Nat.le_trans Z1 E3.1
  have hk3 : _ ≤ h3.size := Nat.le_trans hk1 E3.1
  obtain ⟨cl5, Ar5, q5, S5, Nn5, H5, G5⟩ := (id V3)
  have hin5 : ¬ ((0 : Int32) < 0 ∨ cl5.slots.size ≤ ((0 : Int32)).toNatClampNeg) := inb_of S5 ⟨by decide, by decide⟩
  obtain ⟨T5, h5, X5, e5, W5, st5⟩ := stC X3 hx hZ e3 Ar5 (j := (0 : Int32)) hin5 (g := (mkF m 135 #[vi (5 : Int32), vi p1, vi p2, vi p3, vi p4, vi p5, vi p6] [(.int p1), (.int (0 : Int32)), (.ref b3), (.ref b3), (.ref b1), (.ref b1)])) rfl rfl (hb hby d11_135)
  have Re6 := Re4.trans (CHr.wr W5 (Safe.exa hZ.alike AX3 (by decide) (by decide)) hCe4)
  have hCe6 := Re6.1
  have V5 : Arv Z h5 b3 k3 .char (5 : Int32) [(.int (nar .char p1)), (.int (0 : Int32)), (.int (0 : Int32)), (.int (0 : Int32)), (.int (0 : Int32))] (.int (0 : Int32)) := Arv.set Ar5 q5 S5 Nn5 H5 G5 (fits_nar_char _) W5 0 rfl (Nat.le_of_ble_eq_true rfl)
  have Vn5 : Arv Z h5 b3 k3 .char (5 : Int32) [(.int p1), (.int (0 : Int32)), (.int (0 : Int32)), (.int (0 : Int32)), (.int (0 : Int32))] (.int (0 : Int32)) := by have q := V5; rw [(own_ne ub_p1)] at q; exact q
  have N5 := Fr.snoc X5 N0 g_b3
  have K5 : Keep h0 h5 [] := K3.wr W5 (Or.inr sz_b3)
  have Z5 : n0 ≤ h5.size := by rw [W5.size]; exact Z3
  have hk5 := own_szW W5 hk3
  obtain ⟨cl7, Ar7, q7, S7, Nn7, H7, G7⟩ := (id Vn5)
  have hin7 : ¬ ((1 : Int32) < 0 ∨ cl7.slots.size ≤ ((1 : Int32)).toNatClampNeg) := inb_of S7 ⟨by decide, by decide⟩
  obtain ⟨T7, h7, X7, e7, W7, st7⟩ := stC X5 hx hZ e5 Ar7 (j := (1 : Int32)) hin7 (g := (mkF m 139 #[vi (5 : Int32), vi p1, vi p2, vi p3, vi p4, vi p5, vi p6] [(.int p2), (.int (1 : Int32)), (.ref b3), (.ref b3), (.ref b1), (.ref b1)])) rfl rfl (hb hby d11_139)
  have c8 := (AX3.wr W5)
  have Re9 := Re6.trans (CHr.wr W7 (Safe.exa hZ.alike c8 (by decide) (by decide)) hCe6)
  have hCe9 := Re9.1
  have V7 : Arv Z h7 b3 k3 .char (5 : Int32) [(.int p1), (.int (nar .char p2)), (.int (0 : Int32)), (.int (0 : Int32)), (.int (0 : Int32))] (.int (0 : Int32)) := Arv.set Ar7 q7 S7 Nn7 H7 G7 (fits_nar_char _) W7 1 rfl (Nat.le_of_ble_eq_true rfl)
  have Vn7 : Arv Z h7 b3 k3 .char (5 : Int32) [(.int p1), (.int p2), (.int (0 : Int32)), (.int (0 : Int32)), (.int (0 : Int32))] (.int (0 : Int32)) := by have q := V7; rw [(own_ne ub_p2)] at q; exact q
  have N7 := Fr.snoc X7 N5 g_b3
  have K7 : Keep h0 h7 [] := K5.wr W7 (Or.inr sz_b3)
  have Z7 : n0 ≤ h7.size := by rw [W7.size]; exact Z5
  have hk7 := own_szW W7 hk5
  obtain ⟨cl10, Ar10, q10, S10, Nn10, H10, G10⟩ := (id Vn7)
  have hin10 : ¬ ((2 : Int32) < 0 ∨ cl10.slots.size ≤ ((2 : Int32)).toNatClampNeg) := inb_of S10 ⟨by decide, by decide⟩
  obtain ⟨T10, h10, X10, e10, W10, st10⟩ := stC X7 hx hZ e7 Ar10 (j := (2 : Int32)) hin10 (g := (mkF m 143 #[vi (5 : Int32), vi p1, vi p2, vi p3, vi p4, vi p5, vi p6] [(.int p3), (.int (2 : Int32)), (.ref b3), (.ref b3), (.ref b1), (.ref b1)])) rfl rfl (hb hby d11_143)
  have c11 := (c8.wr W7)
  have Re12 := Re9.trans (CHr.wr W10 (Safe.exa hZ.alike c11 (by decide) (by decide)) hCe9)
  have hCe12 := Re12.1
  have V10 : Arv Z h10 b3 k3 .char (5 : Int32) [(.int p1), (.int p2), (.int (nar .char p3)), (.int (0 : Int32)), (.int (0 : Int32))] (.int (0 : Int32)) := Arv.set Ar10 q10 S10 Nn10 H10 G10 (fits_nar_char _) W10 2 rfl (Nat.le_of_ble_eq_true rfl)
  have Vn10 : Arv Z h10 b3 k3 .char (5 : Int32) [(.int p1), (.int p2), (.int p3), (.int (0 : Int32)), (.int (0 : Int32))] (.int (0 : Int32)) := by have q := V10; rw [(own_ne ub_p3)] at q; exact q
  have N10 := Fr.snoc X10 N7 g_b3
  have K10 : Keep h0 h10 [] := K7.wr W10 (Or.inr sz_b3)
  have Z10 : n0 ≤ h10.size := by rw [W10.size]; exact Z7
  have hk10 := own_szW W10 hk7
  obtain ⟨cl13, Ar13, q13, S13, Nn13, H13, G13⟩ := (id Vn10)
  have hin13 : ¬ ((3 : Int32) < 0 ∨ cl13.slots.size ≤ ((3 : Int32)).toNatClampNeg) := inb_of S13 ⟨by decide, by decide⟩
  obtain ⟨T13, h13, X13, e13, W13, st13⟩ := stC X10 hx hZ e10 Ar13 (j := (3 : Int32)) hin13 (g := (mkF m 148 #[vi (5 : Int32), vi p1, vi p2, vi p3, vi p4, vi p5, vi p6] [(.int p4), (.int (3 : Int32)), (.ref b3), (.ref b3), (.ref b1), (.ref b1)])) rfl rfl (hb hby d11_148)
  have c14 := (c11.wr W10)
  have Re15 := Re12.trans (CHr.wr W13 (Safe.exa hZ.alike c14 (by decide) (by decide)) hCe12)
  have hCe15 := Re15.1
  have V13 : Arv Z h13 b3 k3 .char (5 : Int32) [(.int p1), (.int p2), (.int p3), (.int (nar .char p4)), (.int (0 : Int32))] (.int (0 : Int32)) := Arv.set Ar13 q13 S13 Nn13 H13 G13 (fits_nar_char _) W13 3 rfl (Nat.le_of_ble_eq_true rfl)
  have Vn13 : Arv Z h13 b3 k3 .char (5 : Int32) [(.int p1), (.int p2), (.int p3), (.int p4), (.int (0 : Int32))] (.int (0 : Int32)) := by have q := V13; rw [(own_ne ub_p4)] at q; exact q
  have N13 := Fr.snoc X13 N10 g_b3
  have K13 : Keep h0 h13 [] := K10.wr W13 (Or.inr sz_b3)
  have Z13 : n0 ≤ h13.size := by rw [W13.size]; exact Z10
  have hk13 := own_szW W13 hk10
  obtain ⟨cl16, Ar16, q16, S16, Nn16, H16, G16⟩ := (id Vn13)
  have hin16 : ¬ ((4 : Int32) < 0 ∨ cl16.slots.size ≤ ((4 : Int32)).toNatClampNeg) := inb_of S16 ⟨by decide, by decide⟩
  obtain ⟨T16, h16, X16, e16, W16, st16⟩ := stC X13 hx hZ e13 Ar16 (j := (4 : Int32)) hin16 (g := (mkF m 153 #[vi (5 : Int32), vi p1, vi p2, vi p3, vi p4, vi p5, vi p6] [(.int p5), (.int (4 : Int32)), (.ref b3), (.ref b3), (.ref b1), (.ref b1)])) rfl rfl (hb hby d11_153)
  have c17 := (c14.wr W13)
  have Re18 := Re15.trans (CHr.wr W16 (Safe.exa hZ.alike c17 (by decide) (by decide)) hCe15)
  have hCe18 := Re18.1
  have V16 : Arv Z h16 b3 k3 .char (5 : Int32) [(.int p1), (.int p2), (.int p3), (.int p4), (.int (nar .char p5))] (.int (0 : Int32)) := Arv.set Ar16 q16 S16 Nn16 H16 G16 (fits_nar_char _) W16 4 rfl (Nat.le_of_ble_eq_true rfl)
  have Vn16 : Arv Z h16 b3 k3 .char (5 : Int32) [(.int p1), (.int p2), (.int p3), (.int p4), (.int p5)] (.int (0 : Int32)) := by have q := V16; rw [(own_ne ub_p5)] at q; exact q
  have N16 := Fr.snoc X16 N13 g_b3
  have K16 : Keep h0 h16 [] := K13.wr W16 (Or.inr sz_b3)
  have Z16 : n0 ≤ h16.size := by rw [W16.size]; exact Z13
  have hk16 := own_szW W16 hk13
  have c20 := ((((((A1.ext E3).wr W5).wr W7).wr W10).wr W13).wr W16)
  have c21 := ((((((F1_value.ext E3).other W5 (Or.inl ne_b1_b3)).other W7 (Or.inl ne_b1_b3)).other W10 (Or.inl ne_b1_b3)).other W13 (Or.inl ne_b1_b3)).other W16 (Or.inl ne_b1_b3))
  have c22 := ((((((F1_coder.ext E3).other W5 (Or.inl ne_b1_b3)).other W7 (Or.inl ne_b1_b3)).other W10 (Or.inl ne_b1_b3)).other W13 (Or.inl ne_b1_b3)).other W16 (Or.inl ne_b1_b3))
  have c23 := (((((((uO.ext E1).ext E3).wr W5 g_b3).wr W7 g_b3).wr W10 g_b3).wr W13 g_b3).wr W16 g_b3)
  obtain ⟨_, _, ⟨T19, Lw19, kw19, nw19⟩, -, X19, ⟨Lc19, hQ19, lq19, yq19, zq19⟩, st19⟩ := X16.specialBack hx (y := (⟨"java/lang/String", "<init>", "([C)V"⟩ : MethodName)) rfl hown (mvT hZ (wd hw 59 rfl)) (mvT hZ (wd hw 60 rfl)) (mvT hZ (wd hw 61 rfl)) (by decide) (StrChars.Road.backV (W := 1) hZ (fun d hd => hw d (own_w_words d hd)) (kI := 4) (wd hw 13 rfl) (cs := ([p1, p2, p3, p4, p5] : List Int32)) (bs := (([p1, p2, p3, p4, p5] : List Int32).map (fun c => c.toInt8.toInt32))) (n := 5) g_b1 Z16 c20 c21 c22 Vn16 (uS.ext c23.2) uP rfl rfl (by decide) (by decide) own_hp rfl (by decide) (by decide)) (g := (mkF m 154 #[vi (5 : Int32), vi p1, vi p2, vi p3, vi p4, vi p5, vi p6] [(.ref b3), (.ref b1), (.ref b1)])) rfl (by rw [hml]; rfl) (Steps.refl _) (a := b1) (argsL := [(.ref b3)]) (rest := [(.ref b1)]) (lenOf pd_5 rfl) rfl (by show 2 * 0 + _ ≤ _; exact Nat.le_of_eq rfl) (hb hby d11_154) (fun _ _ => ⟨rfl, e16, (by decide : 2 + 1 ≤ _), (by decide : 9 + 5 ≤ _)⟩)
  dsimp only [Pt.U, Pt.locs, Pt.cells, Pt.slots] at X19 lq19 yq19 zq19 st19 hQ19
  have X19 := own_reb X19 lq19 yq19 zq19
  obtain ⟨rfl, Nq19, Kq19, fE19, fC19, t19, kt19, u119, u219, u319, fV19, fK19⟩ := hQ19
  have N19 := Fr.app N16 Nq19
  have ne_b1_t19 : b1 ≠ t19 := Nat.ne_of_lt (Nat.lt_of_lt_of_le c20.lt u219)
  have ne_b3_t19 : b3 ≠ t19 := Nat.ne_of_lt (Nat.lt_of_lt_of_le Vn16.lt u219)
  have sz_t19 : h0.size ≤ t19 := Nat.le_trans K16.1 u219
  have c24 := (Safe.wr W16 (Safe.exa hZ.alike c17 (by decide) (by decide)) hCe15 (Safe.wr W13 (Safe.exa hZ.alike c14 (by decide) (by decide)) hCe12 (Safe.wr W10 (Safe.exa hZ.alike c11 (by decide) (by decide)) hCe9 (Safe.wr W7 (Safe.exa hZ.alike c8 (by decide) (by decide)) hCe6 (Safe.wr W5 (Safe.exa hZ.alike AX3 (by decide) (by decide)) hCe4 (Safe.ext E3 hCe2 sf1))))))
  have Re25 := Re18.trans (CHr.keep Kq19 (allS c24 all0) hCe18)
  have hCe25 := Re25.1
  have sf19 := Safe.keep Kq19 (allS c24 all0) hCe18 (Safe.new u219)
  have K19 : Keep h0 T19.heap [] := K16.trans Kq19 (allS (Or.inr sz_b1) all0)
  have Z19 : n0 ≤ T19.heap.size := Nat.le_trans Z16 Kq19.1
  have hk19 : _ ≤ T19.heap.size := Nat.le_trans hk16 Kq19.1
  obtain ⟨fs, hr, hrun, hended, en1, en2, en3, en4⟩ := X19.leaveW hS0 (own_hk rfl hk19) (v := some (.ref b1)) (fun h => by rw [Bd.returns] at h; cases h)
  refine ⟨_, _, pre0 _ ?_, hrun, hended, _, _, rfl, ?_, own_chr (T := T19) hh rfl (Re25.trans (CHv.at X19 hZ (own_EW hw) hCe25)), en1, en2, en3, en4.mono (by decide) (by decide)⟩
  · show SS p e below s₁ (mkF m 0 #[vi (5 : Int32), vi p1, vi p2, vi p3, vi p4, vi p5, vi p6] []) _
    refine XS.iloadN X0.here hx rfl (hb hby d11_0) rfl ?_
    show SS p e below s₁ (mkF m 1 #[vi (5 : Int32), vi p1, vi p2, vi p3, vi p4, vi p5, vi p6] [(.int (5 : Int32))]) _
    refine XS.ifYes X0.here hx rfl (pc0 := 1) (pc' := 15) rfl (hb hby d11_1) rfl ((if0 _ _).trans (feq (by decide : ¬ ((5 : Int32) = (0 : Int32)))).2) (by decide) (by decide) ?_
    show SS p e below s₁ (mkF m 15 #[vi (5 : Int32), vi p1, vi p2, vi p3, vi p4, vi p5, vi p6] []) _
    refine XS.iloadN X0.here hx rfl (hb hby d11_15) rfl ?_
    show SS p e below s₁ (mkF m 16 #[vi (5 : Int32), vi p1, vi p2, vi p3, vi p4, vi p5, vi p6] [(.int (5 : Int32))]) _
    refine XS.iconst X0.here hx rfl (hb hby d11_16) ?_
    show SS p e below s₁ (mkF m 17 #[vi (5 : Int32), vi p1, vi p2, vi p3, vi p4, vi p5, vi p6] [(.int (1 : Int32)), (.int (5 : Int32))]) _
    refine XS.icmpYes X0.here hx rfl (pc0 := 17) (pc' := 35) rfl (hb hby d11_17) rfl (feq (by decide : ¬ ((5 : Int32) = (1 : Int32)))).2 (by decide) (by decide) ?_
    show SS p e below s₁ (mkF m 35 #[vi (5 : Int32), vi p1, vi p2, vi p3, vi p4, vi p5, vi p6] []) _
    refine XS.iloadN X0.here hx rfl (hb hby d11_35) rfl ?_
    show SS p e below s₁ (mkF m 36 #[vi (5 : Int32), vi p1, vi p2, vi p3, vi p4, vi p5, vi p6] [(.int (5 : Int32))]) _
    refine XS.iconst X0.here hx rfl (hb hby d11_36) ?_
    show SS p e below s₁ (mkF m 37 #[vi (5 : Int32), vi p1, vi p2, vi p3, vi p4, vi p5, vi p6] [(.int (2 : Int32)), (.int (5 : Int32))]) _
    refine XS.icmpYes X0.here hx rfl (pc0 := 37) (pc' := 59) rfl (hb hby d11_37) rfl (feq (by decide : ¬ ((5 : Int32) = (2 : Int32)))).2 (by decide) (by decide) ?_
    show SS p e below s₁ (mkF m 59 #[vi (5 : Int32), vi p1, vi p2, vi p3, vi p4, vi p5, vi p6] []) _
    refine XS.iloadN X0.here hx rfl (hb hby d11_59) rfl ?_
    show SS p e below s₁ (mkF m 60 #[vi (5 : Int32), vi p1, vi p2, vi p3, vi p4, vi p5, vi p6] [(.int (5 : Int32))]) _
    refine XS.iconst X0.here hx rfl (hb hby d11_60) ?_
    show SS p e below s₁ (mkF m 61 #[vi (5 : Int32), vi p1, vi p2, vi p3, vi p4, vi p5, vi p6] [(.int (3 : Int32)), (.int (5 : Int32))]) _
    refine XS.icmpYes X0.here hx rfl (pc0 := 61) (pc' := 87) rfl (hb hby d11_61) rfl (feq (by decide : ¬ ((5 : Int32) = (3 : Int32)))).2 (by decide) (by decide) ?_
    show SS p e below s₁ (mkF m 87 #[vi (5 : Int32), vi p1, vi p2, vi p3, vi p4, vi p5, vi p6] []) _
    refine XS.iloadN X0.here hx rfl (hb hby d11_87) rfl ?_
    show SS p e below s₁ (mkF m 88 #[vi (5 : Int32), vi p1, vi p2, vi p3, vi p4, vi p5, vi p6] [(.int (5 : Int32))]) _
    refine XS.iconst X0.here hx rfl (hb hby d11_88) ?_
    show SS p e below s₁ (mkF m 89 #[vi (5 : Int32), vi p1, vi p2, vi p3, vi p4, vi p5, vi p6] [(.int (4 : Int32)), (.int (5 : Int32))]) _
    refine XS.icmpYes X0.here hx rfl (pc0 := 89) (pc' := 120) rfl (hb hby d11_89) rfl (feq (by decide : ¬ ((5 : Int32) = (4 : Int32)))).2 (by decide) (by decide) ?_
    show SS p e below s₁ (mkF m 120 #[vi (5 : Int32), vi p1, vi p2, vi p3, vi p4, vi p5, vi p6] []) _
    refine XS.iloadN X0.here hx rfl (hb hby d11_120) rfl ?_
    show SS p e below s₁ (mkF m 121 #[vi (5 : Int32), vi p1, vi p2, vi p3, vi p4, vi p5, vi p6] [(.int (5 : Int32))]) _
    refine XS.iconst X0.here hx rfl (hb hby d11_121) ?_
    show SS p e below s₁ (mkF m 122 #[vi (5 : Int32), vi p1, vi p2, vi p3, vi p4, vi p5, vi p6] [(.int (5 : Int32)), (.int (5 : Int32))]) _
    refine XS.icmpNo X0.here hx rfl (hb hby d11_122) rfl (teq (by decide : (5 : Int32) = (5 : Int32))).2 ?_
    show SS p e below s₁ (mkF m 125 #[vi (5 : Int32), vi p1, vi p2, vi p3, vi p4, vi p5, vi p6] []) _
    refine st1 _ ?_
    show SS p e below T1 (mkF m 128 #[vi (5 : Int32), vi p1, vi p2, vi p3, vi p4, vi p5, vi p6] [(.ref b1)]) _
    refine XS.dup X1.here hx rfl (hb hby d11_128) rfl rfl ?_
    show SS p e below T1 (mkF m 129 #[vi (5 : Int32), vi p1, vi p2, vi p3, vi p4, vi p5, vi p6] [(.ref b1), (.ref b1)]) _
    refine XS.iconst X1.here hx rfl (hb hby d11_129) ?_
    show SS p e below T1 (mkF m 130 #[vi (5 : Int32), vi p1, vi p2, vi p3, vi p4, vi p5, vi p6] [(.int (5 : Int32)), (.ref b1), (.ref b1)]) _
    refine st3 _ ?_
    show SS p e below T3 (mkF m 132 #[vi (5 : Int32), vi p1, vi p2, vi p3, vi p4, vi p5, vi p6] [(.ref b3), (.ref b1), (.ref b1)]) _
    refine XS.dup X3.here hx rfl (hb hby d11_132) rfl rfl ?_
    show SS p e below T3 (mkF m 133 #[vi (5 : Int32), vi p1, vi p2, vi p3, vi p4, vi p5, vi p6] [(.ref b3), (.ref b3), (.ref b1), (.ref b1)]) _
    refine XS.iconst X3.here hx rfl (hb hby d11_133) ?_
    show SS p e below T3 (mkF m 134 #[vi (5 : Int32), vi p1, vi p2, vi p3, vi p4, vi p5, vi p6] [(.int (0 : Int32)), (.ref b3), (.ref b3), (.ref b1), (.ref b1)]) _
    refine XS.iloadN X3.here hx rfl (hb hby d11_134) rfl ?_
    show SS p e below T3 (mkF m 135 #[vi (5 : Int32), vi p1, vi p2, vi p3, vi p4, vi p5, vi p6] [(.int p1), (.int (0 : Int32)), (.ref b3), (.ref b3), (.ref b1), (.ref b1)]) _
    refine st5 _ ?_
    show SS p e below T5 (mkF m 136 #[vi (5 : Int32), vi p1, vi p2, vi p3, vi p4, vi p5, vi p6] [(.ref b3), (.ref b1), (.ref b1)]) _
    refine XS.dup X5.here hx rfl (hb hby d11_136) rfl rfl ?_
    show SS p e below T5 (mkF m 137 #[vi (5 : Int32), vi p1, vi p2, vi p3, vi p4, vi p5, vi p6] [(.ref b3), (.ref b3), (.ref b1), (.ref b1)]) _
    refine XS.iconst X5.here hx rfl (hb hby d11_137) ?_
    show SS p e below T5 (mkF m 138 #[vi (5 : Int32), vi p1, vi p2, vi p3, vi p4, vi p5, vi p6] [(.int (1 : Int32)), (.ref b3), (.ref b3), (.ref b1), (.ref b1)]) _
    refine XS.iloadN X5.here hx rfl (hb hby d11_138) rfl ?_
    show SS p e below T5 (mkF m 139 #[vi (5 : Int32), vi p1, vi p2, vi p3, vi p4, vi p5, vi p6] [(.int p2), (.int (1 : Int32)), (.ref b3), (.ref b3), (.ref b1), (.ref b1)]) _
    refine st7 _ ?_
    show SS p e below T7 (mkF m 140 #[vi (5 : Int32), vi p1, vi p2, vi p3, vi p4, vi p5, vi p6] [(.ref b3), (.ref b1), (.ref b1)]) _
    refine XS.dup X7.here hx rfl (hb hby d11_140) rfl rfl ?_
    show SS p e below T7 (mkF m 141 #[vi (5 : Int32), vi p1, vi p2, vi p3, vi p4, vi p5, vi p6] [(.ref b3), (.ref b3), (.ref b1), (.ref b1)]) _
    refine XS.iconst X7.here hx rfl (hb hby d11_141) ?_
    show SS p e below T7 (mkF m 142 #[vi (5 : Int32), vi p1, vi p2, vi p3, vi p4, vi p5, vi p6] [(.int (2 : Int32)), (.ref b3), (.ref b3), (.ref b1), (.ref b1)]) _
    refine XS.iloadN X7.here hx rfl (hb hby d11_142) rfl ?_
    show SS p e below T7 (mkF m 143 #[vi (5 : Int32), vi p1, vi p2, vi p3, vi p4, vi p5, vi p6] [(.int p3), (.int (2 : Int32)), (.ref b3), (.ref b3), (.ref b1), (.ref b1)]) _
    refine st10 _ ?_
    show SS p e below T10 (mkF m 144 #[vi (5 : Int32), vi p1, vi p2, vi p3, vi p4, vi p5, vi p6] [(.ref b3), (.ref b1), (.ref b1)]) _
    refine XS.dup X10.here hx rfl (hb hby d11_144) rfl rfl ?_
    show SS p e below T10 (mkF m 145 #[vi (5 : Int32), vi p1, vi p2, vi p3, vi p4, vi p5, vi p6] [(.ref b3), (.ref b3), (.ref b1), (.ref b1)]) _
    refine XS.iconst X10.here hx rfl (hb hby d11_145) ?_
    show SS p e below T10 (mkF m 146 #[vi (5 : Int32), vi p1, vi p2, vi p3, vi p4, vi p5, vi p6] [(.int (3 : Int32)), (.ref b3), (.ref b3), (.ref b1), (.ref b1)]) _
    refine XS.iload X10.here hx rfl (hb hby d11_146) rfl ?_
    show SS p e below T10 (mkF m 148 #[vi (5 : Int32), vi p1, vi p2, vi p3, vi p4, vi p5, vi p6] [(.int p4), (.int (3 : Int32)), (.ref b3), (.ref b3), (.ref b1), (.ref b1)]) _
    refine st13 _ ?_
    show SS p e below T13 (mkF m 149 #[vi (5 : Int32), vi p1, vi p2, vi p3, vi p4, vi p5, vi p6] [(.ref b3), (.ref b1), (.ref b1)]) _
    refine XS.dup X13.here hx rfl (hb hby d11_149) rfl rfl ?_
    show SS p e below T13 (mkF m 150 #[vi (5 : Int32), vi p1, vi p2, vi p3, vi p4, vi p5, vi p6] [(.ref b3), (.ref b3), (.ref b1), (.ref b1)]) _
    refine XS.iconst X13.here hx rfl (hb hby d11_150) ?_
    show SS p e below T13 (mkF m 151 #[vi (5 : Int32), vi p1, vi p2, vi p3, vi p4, vi p5, vi p6] [(.int (4 : Int32)), (.ref b3), (.ref b3), (.ref b1), (.ref b1)]) _
    refine XS.iload X13.here hx rfl (hb hby d11_151) rfl ?_
    show SS p e below T13 (mkF m 153 #[vi (5 : Int32), vi p1, vi p2, vi p3, vi p4, vi p5, vi p6] [(.int p5), (.int (4 : Int32)), (.ref b3), (.ref b3), (.ref b1), (.ref b1)]) _
    refine st16 _ ?_
    show SS p e below T16 (mkF m 154 #[vi (5 : Int32), vi p1, vi p2, vi p3, vi p4, vi p5, vi p6] [(.ref b3), (.ref b1), (.ref b1)]) _
    refine st19.trans ?_
    show SS p e below T19 (mkF m 157 #[vi (5 : Int32), vi p1, vi p2, vi p3, vi p4, vi p5, vi p6] [(.ref b1)]) _
    exact retOut X19 hx Bd.returns rfl (Or.inr (Or.inr (Or.inr (Or.inr ⟨rfl, rfl, rfl⟩)))) (hb hby d11_157) hr
  · show Q_rmM5 Z p1 p2 p3 p4 p5 p6 zc fm h0 n0 _ T19.heap _
    exact ⟨b1, t19, kt19, rfl, N19, K19, fE19, fC19, fV19, fK19⟩
theorem ef_21 (m : MethodId) (x1 : Int32) (x2 : Int32) (x3 : Int32) (x4 : Int32) (x5 : Int32) (x6 : Int32) : entryFrame m #[(.int (6 : Int32)), (.int x1), (.int x2), (.int x3), (.int x4), (.int x5), (.int x6)] 7 = mkF m 0 #[vi (6 : Int32), vi x1, vi x2, vi x3, vi x4, vi x5, vi x6] [] := by first | (simp [entryFrame, mkF, argsToLocals, Value.category]; done) | rfl
theorem d11_158 : decode method_6_code 158 = .ok (.new 28, 3) := by decide +kernel
theorem d11_161 : decode method_6_code 161 = .ok (.dup, 1) := by decide +kernel
theorem d11_162 : decode method_6_code 162 = .ok (.bipush 6, 2) := by decide +kernel
theorem d11_164 : decode method_6_code 164 = .ok (.newarray .char, 2) := by decide +kernel
theorem d11_166 : decode method_6_code 166 = .ok (.dup, 1) := by decide +kernel
theorem d11_167 : decode method_6_code 167 = .ok (.iconst 0, 1) := by decide +kernel
theorem d11_168 : decode method_6_code 168 = .ok (.iload_n 1, 1) := by decide +kernel
theorem d11_169 : decode method_6_code 169 = .ok (.castore, 1) := by decide +kernel
theorem d11_170 : decode method_6_code 170 = .ok (.dup, 1) := by decide +kernel
theorem d11_171 : decode method_6_code 171 = .ok (.iconst 1, 1) := by decide +kernel
theorem d11_172 : decode method_6_code 172 = .ok (.iload_n 2, 1) := by decide +kernel
theorem d11_173 : decode method_6_code 173 = .ok (.castore, 1) := by decide +kernel
theorem d11_174 : decode method_6_code 174 = .ok (.dup, 1) := by decide +kernel
theorem d11_175 : decode method_6_code 175 = .ok (.iconst 2, 1) := by decide +kernel
theorem d11_176 : decode method_6_code 176 = .ok (.iload_n 3, 1) := by decide +kernel
theorem d11_177 : decode method_6_code 177 = .ok (.castore, 1) := by decide +kernel
theorem d11_178 : decode method_6_code 178 = .ok (.dup, 1) := by decide +kernel
theorem d11_179 : decode method_6_code 179 = .ok (.iconst 3, 1) := by decide +kernel
theorem d11_180 : decode method_6_code 180 = .ok (.iload 4, 2) := by decide +kernel
theorem d11_182 : decode method_6_code 182 = .ok (.castore, 1) := by decide +kernel
theorem d11_183 : decode method_6_code 183 = .ok (.dup, 1) := by decide +kernel
theorem d11_184 : decode method_6_code 184 = .ok (.iconst 4, 1) := by decide +kernel
theorem d11_185 : decode method_6_code 185 = .ok (.iload 5, 2) := by decide +kernel
theorem d11_187 : decode method_6_code 187 = .ok (.castore, 1) := by decide +kernel
theorem d11_188 : decode method_6_code 188 = .ok (.dup, 1) := by decide +kernel
theorem d11_189 : decode method_6_code 189 = .ok (.iconst 5, 1) := by decide +kernel
theorem d11_190 : decode method_6_code 190 = .ok (.iload 6, 2) := by decide +kernel
theorem d11_192 : decode method_6_code 192 = .ok (.castore, 1) := by decide +kernel
theorem d11_193 : decode method_6_code 193 = .ok (.invokespecial 49, 3) := by decide +kernel
theorem d11_196 : decode method_6_code 196 = .ok (.areturn, 1) := by decide +kernel
def Q_rmM6 (Z : State) (p1 : Int32) (p2 : Int32) (p3 : Int32) (p4 : Int32) (p5 : Int32) (p6 : Int32) (zc : Int32) (fm : Value) (h0 : Heap) (n0 : Nat) (v : Option Value) (h : Heap) (L : List Loc) : Prop := ∃ (nx : Addr), ∃ (nt : Addr), ∃ (nk : ClassId), (v = some (.ref nx) ∧ Fr n0 L ∧ Keep h0 h [] ∧ Exa Z h nx "java/lang/String" ∧ Fld Z h nx "java/lang/String" "coder" "B" (.int (0 : Int32)) ∧ Fld Z h nx "java/lang/String" "value" "[B" (.ref nt) ∧ Arv Z h nt nk .byte (6 : Int32) ((([p1, p2, p3, p4, p5, p6] : List Int32).map (fun c => c.toInt8.toInt32)).map Value.int) (.int (0 : Int32)))
set_option maxRecDepth 65536 in
set_option maxHeartbeats 40000000 in
theorem rmM6 (l : Launch) (Z : State) (a0 : Array Value) (hw : ∀ d ∈ tables_1, d.before a0 Z = true) (ws : List Jvm.Cond) (p1 : Int32) (p2 : Int32) (p3 : Int32) (p4 : Int32) (p5 : Int32) (p6 : Int32) (zc : Int32) (fm : Value) (h0 : Heap) (n0 : Nat) (Z0 : n0 ≤ h0.size) (uO : Old Z n0 h0) (uS : Sta Z Z.heap "java/lang/String" "COMPACT_STRINGS" "Z" (.int zc)) (uF : Sta Z Z.heap "jdk/internal/util/Preconditions" "SIOOBE_FORMATTER" "Ljava/util/function/BiFunction;" fm) (uP : ¬ zc = 0) (uR : fm.isRef = true) (ub_p1 : ¬ p1 < 0 ∧ ¬ (255 : Int32) < p1) (ub_p2 : ¬ p2 < 0 ∧ ¬ (255 : Int32) < p2) (ub_p3 : ¬ p3 < 0 ∧ ¬ (255 : Int32) < p3) (ub_p4 : ¬ p4 < 0 ∧ ¬ (255 : Int32) < p4) (ub_p5 : ¬ p5 < 0 ∧ ¬ (255 : Int32) < p5) (ub_p6 : ¬ p6 < 0 ∧ ¬ (255 : Int32) < p6) :
    MetFree l (⟨"com/example/wireform/wireform/json/JsonIsReservedPinLaw", "make", "(ICCCCCC)Ljava/lang/String;"⟩ : MethodName) (head1 (Jvm.Cond.code (⟨"com/example/wireform/wireform/json/JsonIsReservedPinLaw", "make", "(ICCCCCC)Ljava/lang/String;"⟩ : MethodName) method_6_code 7 (some (.object "java/lang/String")) :: ws) ({ frames := 4, cells := 3, slots := 16, locals := 66 } : Room)) (fun a U => a = #[(.int (6 : Int32)), (.int p1), (.int p2), (.int p3), (.int p4), (.int p5), (.int p6)] ∧ Z.Warmed39 U.vm ∧ U.heap = h0 ∧ CHv Z own_EL U.vm h0) (fun _ _ _ _ _ => True) (fun _ U o U' => ∃ v L, o = .returned v ∧ Q_rmM6 Z p1 p2 p3 p4 p5 p6 zc fm h0 n0 v U'.heap L ∧ CHr Z own_EL U.vm U.heap U'.vm U'.heap ∧ ReturnedEndW U o U' L ({ frames := 4, cells := 3, slots := 16, locals := 66 } : Room).cells ({ frames := 4, cells := 3, slots := 16, locals := 66 } : Room).slots) := by
  refine MetFree.of_bodySF (plainFor_of_name pn_0) hisR ?_
  intro p e s m args below meth c s₁ Bd hml0 hP hK
  obtain ⟨rfl, hZ, hh, hC0⟩ := hP
  have hx := Bd.exec
  have hby := Bd.bytes
  have hml : c.maxLocals = 7 := hml0
  have hown : s.vm.findClass "com/example/wireform/wireform/json/JsonIsReservedPinLaw" = some m.cls := findClass_of_methodNamed Bd.named
  have hnm := (name_of_methodNamed Bd.named Bd.method).1
  have X0 : Stand p l e ({ frames := 4, cells := 3, slots := 16, locals := 66 } : Room) (s.setVm s.vm) m #[(.int (6 : Int32)), (.int p1), (.int p2), (.int p3), (.int p4), (.int p5), (.int p6)] below meth c s₁ [] 0 0 := Stand.of_body Bd
  have e0 : s₁.heap = h0 := by rw [← hh, Bd.state]; rfl
  have N0 := Fr.nil n0
  have pre0 : ∀ t, Steps p.tables e below (s₁.setTop (mkF m 0 #[vi (6 : Int32), vi p1, vi p2, vi p3, vi p4, vi p5, vi p6] [])) t → Steps p.tables e below (s₁.setTop (entryFrame m #[(.int (6 : Int32)), (.int p1), (.int p2), (.int p3), (.int p4), (.int p5), (.int p6)] 7)) t := fun t k => castTop (ef_21 m p1 p2 p3 p4 p5 p6) k
  have hS0 : s.Since s.vm 0 := (State.WarmedH.refl s).since _
  have hk0 : 0 ≤ h0.size := Nat.zero_le _
  have R0 := CHr.refl hC0
  have own_hp : ∀ c ∈ ([p1, p2, p3, p4, p5, p6] : List Int32), ¬ c < 0 ∧ ¬ (255 : Int32) < c := by
    intro c hc
    simp only [List.mem_cons, List.not_mem_nil, or_false] at hc
    rcases hc with rfl | rfl | rfl | rfl | rfl | rfl
    · exact ub_p1
    · exact ub_p2
    · exact ub_p3
    · exact ub_p4
    · exact ub_p5
    · exact ub_p6
  obtain ⟨T1, h1, X1, e1, E1, A1, D1, Un1, st1⟩ := newO X0 hx hZ hown (wd hw 57 rfl) (wd hw 13 rfl) (wd hw 12 rfl) e0 (g := (mkF m 158 #[vi (6 : Int32), vi p1, vi p2, vi p3, vi p4, vi p5, vi p6] [])) rfl (hb hby d11_158) (by decide) (by decide)
  obtain ⟨b1, g1⟩ : ∃ z, z = h0.size := ⟨_, rfl⟩
  rw [← g1] at A1 D1 Un1 st1
  have Re2 := R0.trans (CHr.ext E1 hC0)
  have hCe2 := Re2.1
  have sf1 := Safe.ext E1 hC0 (Safe.new (Nat.le_of_eq g1.symm))
  have F1_value : Fld Z h1 b1 "java/lang/String" "value" "[B" .null := D1 (Or.inr (wd hw 15 rfl)) (ty := (.array .byte)) (by decide)
  have F1_coder : Fld Z h1 b1 "java/lang/String" "coder" "B" (.int (0 : Int32)) := D1 (Or.inr (wd hw 16 rfl)) (ty := .byte) (by decide)
  have g_b1 : n0 ≤ b1 := Nat.le_trans Z0 (Nat.le_of_eq g1.symm)
  have sz_b1 : h0.size ≤ b1 := Nat.le_trans (Keep.refl h0 []).1 (Nat.le_of_eq g1.symm)
  have K1 : Keep h0 h1 [] := (Keep.refl h0 []).ext E1
  have Z1 : n0 ≤ h1.size := Nat.le_trans Z0 E1.1
  have hk1 : _ ≤ h1.size := Nat.le_trans hk0 E1.1
  obtain ⟨T3, h3, k3, X3, e3, E3, A3, AX3, st3⟩ := newPE X1 hx hZ (wd hw 58 rfl) e1 (g := (mkF m 164 #[vi (6 : Int32), vi p1, vi p2, vi p3, vi p4, vi p5, vi p6] [(.int (6 : Int32)), (.ref b1), (.ref b1)])) rfl (hb hby d11_164) rfl (by decide) (cap := 6) (by decide) (by decide) (by decide) (by decide) (ad := "[C") (by decide)
  obtain ⟨b3, g3⟩ : ∃ z, z = h1.size := ⟨_, rfl⟩
  rw [← g3] at A3 AX3 st3
  have ne_b1_b3 : b1 ≠ b3 := Nat.ne_of_lt (Nat.lt_of_lt_of_le A1.lt (Nat.le_of_eq g3.symm))
  have Re4 := Re2.trans (CHr.ext E3 hCe2)
  have hCe4 := Re4.1
  have V3 : Arv Z h3 b3 k3 .char (6 : Int32) [(.int (0 : Int32)), (.int (0 : Int32)), (.int (0 : Int32)), (.int (0 : Int32)), (.int (0 : Int32)), (.int (0 : Int32))] (.int (0 : Int32)) := (Arv.new A3 (by decide)).pad (pad_rep [] (.int (0 : Int32)) 6)
  have g_b3 : n0 ≤ b3 := Nat.le_trans Z1 (Nat.le_of_eq g3.symm)
  have sz_b3 : h0.size ≤ b3 := Nat.le_trans K1.1 (Nat.le_of_eq g3.symm)
  have K3 : Keep h0 h3 [] := K1.ext E3
  have Z3 : n0 ≤ h3.size := Nat.le_trans Z1 E3.1
  have hk3 : _ ≤ h3.size := Nat.le_trans hk1 E3.1
  obtain ⟨cl5, Ar5, q5, S5, Nn5, H5, G5⟩ := (id V3)
  have hin5 : ¬ ((0 : Int32) < 0 ∨ cl5.slots.size ≤ ((0 : Int32)).toNatClampNeg) := inb_of S5 ⟨by decide, by decide⟩
  obtain ⟨T5, h5, X5, e5, W5, st5⟩ := stC X3 hx hZ e3 Ar5 (j := (0 : Int32)) hin5 (g := (mkF m 169 #[vi (6 : Int32), vi p1, vi p2, vi p3, vi p4, vi p5, vi p6] [(.int p1), (.int (0 : Int32)), (.ref b3), (.ref b3), (.ref b1), (.ref b1)])) rfl rfl (hb hby d11_169)
  have Re6 := Re4.trans (CHr.wr W5 (Safe.exa hZ.alike AX3 (by decide) (by decide)) hCe4)
  have hCe6 := Re6.1
  have V5 : Arv Z h5 b3 k3 .char (6 : Int32) [(.int (nar .char p1)), (.int (0 : Int32)), (.int (0 : Int32)), (.int (0 : Int32)), (.int (0 : Int32)), (.int (0 : Int32))] (.int (0 : Int32)) := Arv.set Ar5 q5 S5 Nn5 H5 G5 (fits_nar_char _) W5 0 rfl (Nat.le_of_ble_eq_true rfl)
  have Vn5 : Arv Z h5 b3 k3 .char (6 : Int32) [(.int p1), (.int (0 : Int32)), (.int (0 : Int32)), (.int (0 : Int32)), (.int (0 : Int32)), (.int (0 : Int32))] (.int (0 : Int32)) := by have q := V5; rw [(own_ne ub_p1)] at q; exact q
  have N5 := Fr.snoc X5 N0 g_b3
  have K5 : Keep h0 h5 [] := K3.wr W5 (Or.inr sz_b3)
  have Z5 : n0 ≤ h5.size := by rw [W5.size]; exact Z3
  have hk5 := own_szW W5 hk3
  obtain ⟨cl7, Ar7, q7, S7, Nn7, H7, G7⟩ := (id Vn5)
  have hin7 : ¬ ((1 : Int32) < 0 ∨ cl7.slots.size ≤ ((1 : Int32)).toNatClampNeg) := inb_of S7 ⟨by decide, by decide⟩
  obtain ⟨T7, h7, X7, e7, W7, st7⟩ := stC X5 hx hZ e5 Ar7 (j := (1 : Int32)) hin7 (g := (mkF m 173 #[vi (6 : Int32), vi p1, vi p2, vi p3, vi p4, vi p5, vi p6] [(.int p2), (.int (1 : Int32)), (.ref b3), (.ref b3), (.ref b1), (.ref b1)])) rfl rfl (hb hby d11_173)
  have c8 := (AX3.wr W5)
  have Re9 := Re6.trans (CHr.wr W7 (Safe.exa hZ.alike c8 (by decide) (by decide)) hCe6)
  have hCe9 := Re9.1
  have V7 : Arv Z h7 b3 k3 .char (6 : Int32) [(.int p1), (.int (nar .char p2)), (.int (0 : Int32)), (.int (0 : Int32)), (.int (0 : Int32)), (.int (0 : Int32))] (.int (0 : Int32)) := Arv.set Ar7 q7 S7 Nn7 H7 G7 (fits_nar_char _) W7 1 rfl (Nat.le_of_ble_eq_true rfl)
  have Vn7 : Arv Z h7 b3 k3 .char (6 : Int32) [(.int p1), (.int p2), (.int (0 : Int32)), (.int (0 : Int32)), (.int (0 : Int32)), (.int (0 : Int32))] (.int (0 : Int32)) := by have q := V7; rw [(own_ne ub_p2)] at q; exact q
  have N7 := Fr.snoc X7 N5 g_b3
  have K7 : Keep h0 h7 [] := K5.wr W7 (Or.inr sz_b3)
  have Z7 : n0 ≤ h7.size := by rw [W7.size]; exact Z5
  have hk7 := own_szW W7 hk5
  obtain ⟨cl10, Ar10, q10, S10, Nn10, H10, G10⟩ := (id Vn7)
  have hin10 : ¬ ((2 : Int32) < 0 ∨ cl10.slots.size ≤ ((2 : Int32)).toNatClampNeg) := inb_of S10 ⟨by decide, by decide⟩
  obtain ⟨T10, h10, X10, e10, W10, st10⟩ := stC X7 hx hZ e7 Ar10 (j := (2 : Int32)) hin10 (g := (mkF m 177 #[vi (6 : Int32), vi p1, vi p2, vi p3, vi p4, vi p5, vi p6] [(.int p3), (.int (2 : Int32)), (.ref b3), (.ref b3), (.ref b1), (.ref b1)])) rfl rfl (hb hby d11_177)
  have c11 := (c8.wr W7)
  have Re12 := Re9.trans (CHr.wr W10 (Safe.exa hZ.alike c11 (by decide) (by decide)) hCe9)
  have hCe12 := Re12.1
  have V10 : Arv Z h10 b3 k3 .char (6 : Int32) [(.int p1), (.int p2), (.int (nar .char p3)), (.int (0 : Int32)), (.int (0 : Int32)), (.int (0 : Int32))] (.int (0 : Int32)) := Arv.set Ar10 q10 S10 Nn10 H10 G10 (fits_nar_char _) W10 2 rfl (Nat.le_of_ble_eq_true rfl)
  have Vn10 : Arv Z h10 b3 k3 .char (6 : Int32) [(.int p1), (.int p2), (.int p3), (.int (0 : Int32)), (.int (0 : Int32)), (.int (0 : Int32))] (.int (0 : Int32)) := by have q := V10; rw [(own_ne ub_p3)] at q; exact q
  have N10 := Fr.snoc X10 N7 g_b3
  have K10 : Keep h0 h10 [] := K7.wr W10 (Or.inr sz_b3)
  have Z10 : n0 ≤ h10.size := by rw [W10.size]; exact Z7
  have hk10 := own_szW W10 hk7
  obtain ⟨cl13, Ar13, q13, S13, Nn13, H13, G13⟩ := (id Vn10)
  have hin13 : ¬ ((3 : Int32) < 0 ∨ cl13.slots.size ≤ ((3 : Int32)).toNatClampNeg) := inb_of S13 ⟨by decide, by decide⟩
  obtain ⟨T13, h13, X13, e13, W13, st13⟩ := stC X10 hx hZ e10 Ar13 (j := (3 : Int32)) hin13 (g := (mkF m 182 #[vi (6 : Int32), vi p1, vi p2, vi p3, vi p4, vi p5, vi p6] [(.int p4), (.int (3 : Int32)), (.ref b3), (.ref b3), (.ref b1), (.ref b1)])) rfl rfl (hb hby d11_182)
  have c14 := (c11.wr W10)
  have Re15 := Re12.trans (CHr.wr W13 (Safe.exa hZ.alike c14 (by decide) (by decide)) hCe12)
  have hCe15 := Re15.1
  have V13 : Arv Z h13 b3 k3 .char (6 : Int32) [(.int p1), (.int p2), (.int p3), (.int (nar .char p4)), (.int (0 : Int32)), (.int (0 : Int32))] (.int (0 : Int32)) := Arv.set Ar13 q13 S13 Nn13 H13 G13 (fits_nar_char _) W13 3 rfl (Nat.le_of_ble_eq_true rfl)
  have Vn13 : Arv Z h13 b3 k3 .char (6 : Int32) [(.int p1), (.int p2), (.int p3), (.int p4), (.int (0 : Int32)), (.int (0 : Int32))] (.int (0 : Int32)) := by have q := V13; rw [(own_ne ub_p4)] at q; exact q
  have N13 := Fr.snoc X13 N10 g_b3
  have K13 : Keep h0 h13 [] := K10.wr W13 (Or.inr sz_b3)
  have Z13 : n0 ≤ h13.size := by rw [W13.size]; exact Z10
  have hk13 := own_szW W13 hk10
  obtain ⟨cl16, Ar16, q16, S16, Nn16, H16, G16⟩ := (id Vn13)
  have hin16 : ¬ ((4 : Int32) < 0 ∨ cl16.slots.size ≤ ((4 : Int32)).toNatClampNeg) := inb_of S16 ⟨by decide, by decide⟩
  obtain ⟨T16, h16, X16, e16, W16, st16⟩ := stC X13 hx hZ e13 Ar16 (j := (4 : Int32)) hin16 (g := (mkF m 187 #[vi (6 : Int32), vi p1, vi p2, vi p3, vi p4, vi p5, vi p6] [(.int p5), (.int (4 : Int32)), (.ref b3), (.ref b3), (.ref b1), (.ref b1)])) rfl rfl (hb hby d11_187)
  have c17 := (c14.wr W13)
  have Re18 := Re15.trans (CHr.wr W16 (Safe.exa hZ.alike c17 (by decide) (by decide)) hCe15)
  have hCe18 := Re18.1
  have V16 : Arv Z h16 b3 k3 .char (6 : Int32) [(.int p1), (.int p2), (.int p3), (.int p4), (.int (nar .char p5)), (.int (0 : Int32))] (.int (0 : Int32)) := Arv.set Ar16 q16 S16 Nn16 H16 G16 (fits_nar_char _) W16 4 rfl (Nat.le_of_ble_eq_true rfl)
  have Vn16 : Arv Z h16 b3 k3 .char (6 : Int32) [(.int p1), (.int p2), (.int p3), (.int p4), (.int p5), (.int (0 : Int32))] (.int (0 : Int32)) := by have q := V16; rw [(own_ne ub_p5)] at q; exact q
  have N16 := Fr.snoc X16 N13 g_b3
  have K16 : Keep h0 h16 [] := K13.wr W16 (Or.inr sz_b3)
  have Z16 : n0 ≤ h16.size := by rw [W16.size]; exact Z13
  have hk16 := own_szW W16 hk13
  obtain ⟨cl19, Ar19, q19, S19, Nn19, H19, G19⟩ := (id Vn16)
  have hin19 : ¬ ((5 : Int32) < 0 ∨ cl19.slots.size ≤ ((5 : Int32)).toNatClampNeg) := inb_of S19 ⟨by decide, by decide⟩
  obtain ⟨T19, h19, X19, e19, W19, st19⟩ := stC X16 hx hZ e16 Ar19 (j := (5 : Int32)) hin19 (g := (mkF m 192 #[vi (6 : Int32), vi p1, vi p2, vi p3, vi p4, vi p5, vi p6] [(.int p6), (.int (5 : Int32)), (.ref b3), (.ref b3), (.ref b1), (.ref b1)])) rfl rfl (hb hby d11_192)
  have c20 := (c17.wr W16)
  have Re21 := Re18.trans (CHr.wr W19 (Safe.exa hZ.alike c20 (by decide) (by decide)) hCe18)
  have hCe21 := Re21.1
  have V19 : Arv Z h19 b3 k3 .char (6 : Int32) [(.int p1), (.int p2), (.int p3), (.int p4), (.int p5), (.int (nar .char p6))] (.int (0 : Int32)) := Arv.set Ar19 q19 S19 Nn19 H19 G19 (fits_nar_char _) W19 5 rfl (Nat.le_of_ble_eq_true rfl)
  have Vn19 : Arv Z h19 b3 k3 .char (6 : Int32) [(.int p1), (.int p2), (.int p3), (.int p4), (.int p5), (.int p6)] (.int (0 : Int32)) := by have q := V19; rw [(own_ne ub_p6)] at q; exact q
  have N19 := Fr.snoc X19 N16 g_b3
  have K19 : Keep h0 h19 [] := K16.wr W19 (Or.inr sz_b3)
  have Z19 : n0 ≤ h19.size := by rw [W19.size]; exact Z16
  have hk19 := own_szW W19 hk16
  have c23 := (((((((A1.ext E3).wr W5).wr W7).wr W10).wr W13).wr W16).wr W19)
  have c24 := (((((((F1_value.ext E3).other W5 (Or.inl ne_b1_b3)).other W7 (Or.inl ne_b1_b3)).other W10 (Or.inl ne_b1_b3)).other W13 (Or.inl ne_b1_b3)).other W16 (Or.inl ne_b1_b3)).other W19 (Or.inl ne_b1_b3))
  have c25 := (((((((F1_coder.ext E3).other W5 (Or.inl ne_b1_b3)).other W7 (Or.inl ne_b1_b3)).other W10 (Or.inl ne_b1_b3)).other W13 (Or.inl ne_b1_b3)).other W16 (Or.inl ne_b1_b3)).other W19 (Or.inl ne_b1_b3))
  have c26 := ((((((((uO.ext E1).ext E3).wr W5 g_b3).wr W7 g_b3).wr W10 g_b3).wr W13 g_b3).wr W16 g_b3).wr W19 g_b3)
  obtain ⟨_, _, ⟨T22, Lw22, kw22, nw22⟩, -, X22, ⟨Lc22, hQ22, lq22, yq22, zq22⟩, st22⟩ := X19.specialBack hx (y := (⟨"java/lang/String", "<init>", "([C)V"⟩ : MethodName)) rfl hown (mvT hZ (wd hw 59 rfl)) (mvT hZ (wd hw 60 rfl)) (mvT hZ (wd hw 61 rfl)) (by decide) (StrChars.Road.backV (W := 1) hZ (fun d hd => hw d (own_w_words d hd)) (kI := 4) (wd hw 13 rfl) (cs := ([p1, p2, p3, p4, p5, p6] : List Int32)) (bs := (([p1, p2, p3, p4, p5, p6] : List Int32).map (fun c => c.toInt8.toInt32))) (n := 6) g_b1 Z19 c23 c24 c25 Vn19 (uS.ext c26.2) uP rfl rfl (by decide) (by decide) own_hp rfl (by decide) (by decide)) (g := (mkF m 193 #[vi (6 : Int32), vi p1, vi p2, vi p3, vi p4, vi p5, vi p6] [(.ref b3), (.ref b1), (.ref b1)])) rfl (by rw [hml]; rfl) (Steps.refl _) (a := b1) (argsL := [(.ref b3)]) (rest := [(.ref b1)]) (lenOf pd_5 rfl) rfl (by show 2 * 0 + _ ≤ _; exact Nat.le_of_eq rfl) (hb hby d11_193) (fun _ _ => ⟨rfl, e19, (by decide : 2 + 1 ≤ _), (by decide : 10 + 6 ≤ _)⟩)
  dsimp only [Pt.U, Pt.locs, Pt.cells, Pt.slots] at X22 lq22 yq22 zq22 st22 hQ22
  have X22 := own_reb X22 lq22 yq22 zq22
  obtain ⟨rfl, Nq22, Kq22, fE22, fC22, t22, kt22, u122, u222, u322, fV22, fK22⟩ := hQ22
  have N22 := Fr.app N19 Nq22
  have ne_b1_t22 : b1 ≠ t22 := Nat.ne_of_lt (Nat.lt_of_lt_of_le c23.lt u222)
  have ne_b3_t22 : b3 ≠ t22 := Nat.ne_of_lt (Nat.lt_of_lt_of_le Vn19.lt u222)
  have sz_t22 : h0.size ≤ t22 := Nat.le_trans K19.1 u222
  have c27 := (Safe.wr W19 (Safe.exa hZ.alike c20 (by decide) (by decide)) hCe18 (Safe.wr W16 (Safe.exa hZ.alike c17 (by decide) (by decide)) hCe15 (Safe.wr W13 (Safe.exa hZ.alike c14 (by decide) (by decide)) hCe12 (Safe.wr W10 (Safe.exa hZ.alike c11 (by decide) (by decide)) hCe9 (Safe.wr W7 (Safe.exa hZ.alike c8 (by decide) (by decide)) hCe6 (Safe.wr W5 (Safe.exa hZ.alike AX3 (by decide) (by decide)) hCe4 (Safe.ext E3 hCe2 sf1)))))))
  have Re28 := Re21.trans (CHr.keep Kq22 (allS c27 all0) hCe21)
  have hCe28 := Re28.1
  have sf22 := Safe.keep Kq22 (allS c27 all0) hCe21 (Safe.new u222)
  have K22 : Keep h0 T22.heap [] := K19.trans Kq22 (allS (Or.inr sz_b1) all0)
  have Z22 : n0 ≤ T22.heap.size := Nat.le_trans Z19 Kq22.1
  have hk22 : _ ≤ T22.heap.size := Nat.le_trans hk19 Kq22.1
  obtain ⟨fs, hr, hrun, hended, en1, en2, en3, en4⟩ := X22.leaveW hS0 (own_hk rfl hk22) (v := some (.ref b1)) (fun h => by rw [Bd.returns] at h; cases h)
  refine ⟨_, _, pre0 _ ?_, hrun, hended, _, _, rfl, ?_, own_chr (T := T22) hh rfl (Re28.trans (CHv.at X22 hZ (own_EW hw) hCe28)), en1, en2, en3, en4.mono (by decide) (by decide)⟩
  · show SS p e below s₁ (mkF m 0 #[vi (6 : Int32), vi p1, vi p2, vi p3, vi p4, vi p5, vi p6] []) _
    refine XS.iloadN X0.here hx rfl (hb hby d11_0) rfl ?_
    show SS p e below s₁ (mkF m 1 #[vi (6 : Int32), vi p1, vi p2, vi p3, vi p4, vi p5, vi p6] [(.int (6 : Int32))]) _
    refine XS.ifYes X0.here hx rfl (pc0 := 1) (pc' := 15) rfl (hb hby d11_1) rfl ((if0 _ _).trans (feq (by decide : ¬ ((6 : Int32) = (0 : Int32)))).2) (by decide) (by decide) ?_
    show SS p e below s₁ (mkF m 15 #[vi (6 : Int32), vi p1, vi p2, vi p3, vi p4, vi p5, vi p6] []) _
    refine XS.iloadN X0.here hx rfl (hb hby d11_15) rfl ?_
    show SS p e below s₁ (mkF m 16 #[vi (6 : Int32), vi p1, vi p2, vi p3, vi p4, vi p5, vi p6] [(.int (6 : Int32))]) _
    refine XS.iconst X0.here hx rfl (hb hby d11_16) ?_
    show SS p e below s₁ (mkF m 17 #[vi (6 : Int32), vi p1, vi p2, vi p3, vi p4, vi p5, vi p6] [(.int (1 : Int32)), (.int (6 : Int32))]) _
    refine XS.icmpYes X0.here hx rfl (pc0 := 17) (pc' := 35) rfl (hb hby d11_17) rfl (feq (by decide : ¬ ((6 : Int32) = (1 : Int32)))).2 (by decide) (by decide) ?_
    show SS p e below s₁ (mkF m 35 #[vi (6 : Int32), vi p1, vi p2, vi p3, vi p4, vi p5, vi p6] []) _
    refine XS.iloadN X0.here hx rfl (hb hby d11_35) rfl ?_
    show SS p e below s₁ (mkF m 36 #[vi (6 : Int32), vi p1, vi p2, vi p3, vi p4, vi p5, vi p6] [(.int (6 : Int32))]) _
    refine XS.iconst X0.here hx rfl (hb hby d11_36) ?_
    show SS p e below s₁ (mkF m 37 #[vi (6 : Int32), vi p1, vi p2, vi p3, vi p4, vi p5, vi p6] [(.int (2 : Int32)), (.int (6 : Int32))]) _
    refine XS.icmpYes X0.here hx rfl (pc0 := 37) (pc' := 59) rfl (hb hby d11_37) rfl (feq (by decide : ¬ ((6 : Int32) = (2 : Int32)))).2 (by decide) (by decide) ?_
    show SS p e below s₁ (mkF m 59 #[vi (6 : Int32), vi p1, vi p2, vi p3, vi p4, vi p5, vi p6] []) _
    refine XS.iloadN X0.here hx rfl (hb hby d11_59) rfl ?_
    show SS p e below s₁ (mkF m 60 #[vi (6 : Int32), vi p1, vi p2, vi p3, vi p4, vi p5, vi p6] [(.int (6 : Int32))]) _
    refine XS.iconst X0.here hx rfl (hb hby d11_60) ?_
    show SS p e below s₁ (mkF m 61 #[vi (6 : Int32), vi p1, vi p2, vi p3, vi p4, vi p5, vi p6] [(.int (3 : Int32)), (.int (6 : Int32))]) _
    refine XS.icmpYes X0.here hx rfl (pc0 := 61) (pc' := 87) rfl (hb hby d11_61) rfl (feq (by decide : ¬ ((6 : Int32) = (3 : Int32)))).2 (by decide) (by decide) ?_
    show SS p e below s₁ (mkF m 87 #[vi (6 : Int32), vi p1, vi p2, vi p3, vi p4, vi p5, vi p6] []) _
    refine XS.iloadN X0.here hx rfl (hb hby d11_87) rfl ?_
    show SS p e below s₁ (mkF m 88 #[vi (6 : Int32), vi p1, vi p2, vi p3, vi p4, vi p5, vi p6] [(.int (6 : Int32))]) _
    refine XS.iconst X0.here hx rfl (hb hby d11_88) ?_
    show SS p e below s₁ (mkF m 89 #[vi (6 : Int32), vi p1, vi p2, vi p3, vi p4, vi p5, vi p6] [(.int (4 : Int32)), (.int (6 : Int32))]) _
    refine XS.icmpYes X0.here hx rfl (pc0 := 89) (pc' := 120) rfl (hb hby d11_89) rfl (feq (by decide : ¬ ((6 : Int32) = (4 : Int32)))).2 (by decide) (by decide) ?_
    show SS p e below s₁ (mkF m 120 #[vi (6 : Int32), vi p1, vi p2, vi p3, vi p4, vi p5, vi p6] []) _
    refine XS.iloadN X0.here hx rfl (hb hby d11_120) rfl ?_
    show SS p e below s₁ (mkF m 121 #[vi (6 : Int32), vi p1, vi p2, vi p3, vi p4, vi p5, vi p6] [(.int (6 : Int32))]) _
    refine XS.iconst X0.here hx rfl (hb hby d11_121) ?_
    show SS p e below s₁ (mkF m 122 #[vi (6 : Int32), vi p1, vi p2, vi p3, vi p4, vi p5, vi p6] [(.int (5 : Int32)), (.int (6 : Int32))]) _
    refine XS.icmpYes X0.here hx rfl (pc0 := 122) (pc' := 158) rfl (hb hby d11_122) rfl (feq (by decide : ¬ ((6 : Int32) = (5 : Int32)))).2 (by decide) (by decide) ?_
    show SS p e below s₁ (mkF m 158 #[vi (6 : Int32), vi p1, vi p2, vi p3, vi p4, vi p5, vi p6] []) _
    refine st1 _ ?_
    show SS p e below T1 (mkF m 161 #[vi (6 : Int32), vi p1, vi p2, vi p3, vi p4, vi p5, vi p6] [(.ref b1)]) _
    refine XS.dup X1.here hx rfl (hb hby d11_161) rfl rfl ?_
    show SS p e below T1 (mkF m 162 #[vi (6 : Int32), vi p1, vi p2, vi p3, vi p4, vi p5, vi p6] [(.ref b1), (.ref b1)]) _
    refine XS.bipush X1.here hx rfl (hb hby d11_162) ?_
    show SS p e below T1 (mkF m 164 #[vi (6 : Int32), vi p1, vi p2, vi p3, vi p4, vi p5, vi p6] [(.int (6 : Int32)), (.ref b1), (.ref b1)]) _
    refine st3 _ ?_
    show SS p e below T3 (mkF m 166 #[vi (6 : Int32), vi p1, vi p2, vi p3, vi p4, vi p5, vi p6] [(.ref b3), (.ref b1), (.ref b1)]) _
    refine XS.dup X3.here hx rfl (hb hby d11_166) rfl rfl ?_
    show SS p e below T3 (mkF m 167 #[vi (6 : Int32), vi p1, vi p2, vi p3, vi p4, vi p5, vi p6] [(.ref b3), (.ref b3), (.ref b1), (.ref b1)]) _
    refine XS.iconst X3.here hx rfl (hb hby d11_167) ?_
    show SS p e below T3 (mkF m 168 #[vi (6 : Int32), vi p1, vi p2, vi p3, vi p4, vi p5, vi p6] [(.int (0 : Int32)), (.ref b3), (.ref b3), (.ref b1), (.ref b1)]) _
    refine XS.iloadN X3.here hx rfl (hb hby d11_168) rfl ?_
    show SS p e below T3 (mkF m 169 #[vi (6 : Int32), vi p1, vi p2, vi p3, vi p4, vi p5, vi p6] [(.int p1), (.int (0 : Int32)), (.ref b3), (.ref b3), (.ref b1), (.ref b1)]) _
    refine st5 _ ?_
    show SS p e below T5 (mkF m 170 #[vi (6 : Int32), vi p1, vi p2, vi p3, vi p4, vi p5, vi p6] [(.ref b3), (.ref b1), (.ref b1)]) _
    refine XS.dup X5.here hx rfl (hb hby d11_170) rfl rfl ?_
    show SS p e below T5 (mkF m 171 #[vi (6 : Int32), vi p1, vi p2, vi p3, vi p4, vi p5, vi p6] [(.ref b3), (.ref b3), (.ref b1), (.ref b1)]) _
    refine XS.iconst X5.here hx rfl (hb hby d11_171) ?_
    show SS p e below T5 (mkF m 172 #[vi (6 : Int32), vi p1, vi p2, vi p3, vi p4, vi p5, vi p6] [(.int (1 : Int32)), (.ref b3), (.ref b3), (.ref b1), (.ref b1)]) _
    refine XS.iloadN X5.here hx rfl (hb hby d11_172) rfl ?_
    show SS p e below T5 (mkF m 173 #[vi (6 : Int32), vi p1, vi p2, vi p3, vi p4, vi p5, vi p6] [(.int p2), (.int (1 : Int32)), (.ref b3), (.ref b3), (.ref b1), (.ref b1)]) _
    refine st7 _ ?_
    show SS p e below T7 (mkF m 174 #[vi (6 : Int32), vi p1, vi p2, vi p3, vi p4, vi p5, vi p6] [(.ref b3), (.ref b1), (.ref b1)]) _
    refine XS.dup X7.here hx rfl (hb hby d11_174) rfl rfl ?_
    show SS p e below T7 (mkF m 175 #[vi (6 : Int32), vi p1, vi p2, vi p3, vi p4, vi p5, vi p6] [(.ref b3), (.ref b3), (.ref b1), (.ref b1)]) _
    refine XS.iconst X7.here hx rfl (hb hby d11_175) ?_
    show SS p e below T7 (mkF m 176 #[vi (6 : Int32), vi p1, vi p2, vi p3, vi p4, vi p5, vi p6] [(.int (2 : Int32)), (.ref b3), (.ref b3), (.ref b1), (.ref b1)]) _
    refine XS.iloadN X7.here hx rfl (hb hby d11_176) rfl ?_
    show SS p e below T7 (mkF m 177 #[vi (6 : Int32), vi p1, vi p2, vi p3, vi p4, vi p5, vi p6] [(.int p3), (.int (2 : Int32)), (.ref b3), (.ref b3), (.ref b1), (.ref b1)]) _
    refine st10 _ ?_
    show SS p e below T10 (mkF m 178 #[vi (6 : Int32), vi p1, vi p2, vi p3, vi p4, vi p5, vi p6] [(.ref b3), (.ref b1), (.ref b1)]) _
    refine XS.dup X10.here hx rfl (hb hby d11_178) rfl rfl ?_
    show SS p e below T10 (mkF m 179 #[vi (6 : Int32), vi p1, vi p2, vi p3, vi p4, vi p5, vi p6] [(.ref b3), (.ref b3), (.ref b1), (.ref b1)]) _
    refine XS.iconst X10.here hx rfl (hb hby d11_179) ?_
    show SS p e below T10 (mkF m 180 #[vi (6 : Int32), vi p1, vi p2, vi p3, vi p4, vi p5, vi p6] [(.int (3 : Int32)), (.ref b3), (.ref b3), (.ref b1), (.ref b1)]) _
    refine XS.iload X10.here hx rfl (hb hby d11_180) rfl ?_
    show SS p e below T10 (mkF m 182 #[vi (6 : Int32), vi p1, vi p2, vi p3, vi p4, vi p5, vi p6] [(.int p4), (.int (3 : Int32)), (.ref b3), (.ref b3), (.ref b1), (.ref b1)]) _
    refine st13 _ ?_
    show SS p e below T13 (mkF m 183 #[vi (6 : Int32), vi p1, vi p2, vi p3, vi p4, vi p5, vi p6] [(.ref b3), (.ref b1), (.ref b1)]) _
    refine XS.dup X13.here hx rfl (hb hby d11_183) rfl rfl ?_
    show SS p e below T13 (mkF m 184 #[vi (6 : Int32), vi p1, vi p2, vi p3, vi p4, vi p5, vi p6] [(.ref b3), (.ref b3), (.ref b1), (.ref b1)]) _
    refine XS.iconst X13.here hx rfl (hb hby d11_184) ?_
    show SS p e below T13 (mkF m 185 #[vi (6 : Int32), vi p1, vi p2, vi p3, vi p4, vi p5, vi p6] [(.int (4 : Int32)), (.ref b3), (.ref b3), (.ref b1), (.ref b1)]) _
    refine XS.iload X13.here hx rfl (hb hby d11_185) rfl ?_
    show SS p e below T13 (mkF m 187 #[vi (6 : Int32), vi p1, vi p2, vi p3, vi p4, vi p5, vi p6] [(.int p5), (.int (4 : Int32)), (.ref b3), (.ref b3), (.ref b1), (.ref b1)]) _
    refine st16 _ ?_
    show SS p e below T16 (mkF m 188 #[vi (6 : Int32), vi p1, vi p2, vi p3, vi p4, vi p5, vi p6] [(.ref b3), (.ref b1), (.ref b1)]) _
    refine XS.dup X16.here hx rfl (hb hby d11_188) rfl rfl ?_
    show SS p e below T16 (mkF m 189 #[vi (6 : Int32), vi p1, vi p2, vi p3, vi p4, vi p5, vi p6] [(.ref b3), (.ref b3), (.ref b1), (.ref b1)]) _
    refine XS.iconst X16.here hx rfl (hb hby d11_189) ?_
    show SS p e below T16 (mkF m 190 #[vi (6 : Int32), vi p1, vi p2, vi p3, vi p4, vi p5, vi p6] [(.int (5 : Int32)), (.ref b3), (.ref b3), (.ref b1), (.ref b1)]) _
    refine XS.iload X16.here hx rfl (hb hby d11_190) rfl ?_
    show SS p e below T16 (mkF m 192 #[vi (6 : Int32), vi p1, vi p2, vi p3, vi p4, vi p5, vi p6] [(.int p6), (.int (5 : Int32)), (.ref b3), (.ref b3), (.ref b1), (.ref b1)]) _
    refine st19 _ ?_
    show SS p e below T19 (mkF m 193 #[vi (6 : Int32), vi p1, vi p2, vi p3, vi p4, vi p5, vi p6] [(.ref b3), (.ref b1), (.ref b1)]) _
    refine st22.trans ?_
    show SS p e below T22 (mkF m 196 #[vi (6 : Int32), vi p1, vi p2, vi p3, vi p4, vi p5, vi p6] [(.ref b1)]) _
    exact retOut X22 hx Bd.returns rfl (Or.inr (Or.inr (Or.inr (Or.inr ⟨rfl, rfl, rfl⟩)))) (hb hby d11_196) hr
  · show Q_rmM6 Z p1 p2 p3 p4 p5 p6 zc fm h0 n0 _ T22.heap _
    exact ⟨b1, t22, kt22, rfl, N22, K22, fE22, fC22, fV22, fK22⟩
theorem ef_22 (m : MethodId) (x0 : Addr) : entryFrame m #[(.ref x0)] 1 = mkF m 0 #[vr x0] [] := by first | (simp [entryFrame, mkF, argsToLocals, Value.category]; done) | rfl
theorem pn_2 : plainName "com/example/wireform/wireform/json/Json" = true := by first | (simp [plainName, overriddenIn]; done) | decide +kernel
theorem d15_0 : decode prog_22_method_2_code 0 = .ok (.aload_n 0, 1) := by decide +kernel
theorem d15_1 : decode prog_22_method_2_code 1 = .ok (.ldc 9, 2) := by decide +kernel
theorem d15_3 : decode prog_22_method_2_code 3 = .ok (.invokevirtual 11, 3) := by decide +kernel
theorem own_w_wordsEq : ∀ d ∈ StrChars.Road.wordsEq, d ∈ tables_1 := by decide +kernel
theorem pd_6 : parseMethodDescriptor "(Ljava/lang/Object;)Z" = some ⟨[(.object "java/lang/Object")], some .boolean⟩ := by decide +kernel
theorem d15_6 : decode prog_22_method_2_code 6 = .ok (.ifCond .ne 21, 3) := by decide +kernel
theorem d15_27 : decode prog_22_method_2_code 27 = .ok (.iconst 1, 1) := by decide +kernel
theorem d15_28 : decode prog_22_method_2_code 28 = .ok (.goto 4, 3) := by decide +kernel
theorem d15_32 : decode prog_22_method_2_code 32 = .ok (.ireturn, 1) := by decide +kernel
theorem d15_9 : decode prog_22_method_2_code 9 = .ok (.aload_n 0, 1) := by decide +kernel
theorem d15_10 : decode prog_22_method_2_code 10 = .ok (.ldc 17, 2) := by decide +kernel
theorem d15_12 : decode prog_22_method_2_code 12 = .ok (.invokevirtual 11, 3) := by decide +kernel
theorem d15_15 : decode prog_22_method_2_code 15 = .ok (.ifCond .ne 12, 3) := by decide +kernel
theorem d15_18 : decode prog_22_method_2_code 18 = .ok (.aload_n 0, 1) := by decide +kernel
theorem d15_19 : decode prog_22_method_2_code 19 = .ok (.ldc 19, 2) := by decide +kernel
theorem d15_21 : decode prog_22_method_2_code 21 = .ok (.invokevirtual 11, 3) := by decide +kernel
theorem d15_24 : decode prog_22_method_2_code 24 = .ok (.ifCond .eq 7, 3) := by decide +kernel
theorem d15_31 : decode prog_22_method_2_code 31 = .ok (.iconst 0, 1) := by decide +kernel
def Q_rmR (Z : State) (r0 : Addr) (zc : Int32) (fm : Value) (rt : Addr) (kb : ClassId) (cs : List Int32) (h0 : Heap) (n0 : Nat) (v : Option Value) (h : Heap) (L : List Loc) : Prop := (v = some (.int (own_res cs)) ∧ Fr n0 L ∧ Keep h0 h [])
set_option maxRecDepth 65536 in
set_option maxHeartbeats 40000000 in
theorem rmR (l : Launch) (Z : State) (a0 : Array Value) (hw : ∀ d ∈ tables_1, d.before a0 Z = true) (ws : List Jvm.Cond) (r0 : Addr) (zc : Int32) (fm : Value) (rt : Addr) (kb : ClassId) (cs : List Int32) (h0 : Heap) (n0 : Nat) (Z0 : n0 ≤ h0.size) (uO : Old Z n0 h0) (uS : Sta Z Z.heap "java/lang/String" "COMPACT_STRINGS" "Z" (.int zc)) (uF : Sta Z Z.heap "jdk/internal/util/Preconditions" "SIOOBE_FORMATTER" "Ljava/util/function/BiFunction;" fm) (uP : ¬ zc = 0) (uR : fm.isRef = true) (uE : Exa Z h0 r0 "java/lang/String") (uc : Fld Z h0 r0 "java/lang/String" "coder" "B" (.int (0 : Int32))) (uv : Fld Z h0 r0 "java/lang/String" "value" "[B" (.ref rt)) (uV : Arv Z h0 rt kb .byte (Int32.ofNat cs.length) ((cs.map (fun c => c.toInt8.toInt32)).map Value.int) (.int (0 : Int32))) (uB : ∀ c ∈ cs, ¬ c < 0 ∧ ¬ (255 : Int32) < c) (uL : cs.length ≤ 4000) :
    MetFree l (⟨"com/example/wireform/wireform/json/Json", "isReserved", "(Ljava/lang/String;)Z"⟩ : MethodName) (head1 (Jvm.Cond.code (⟨"com/example/wireform/wireform/json/Json", "isReserved", "(Ljava/lang/String;)Z"⟩ : MethodName) prog_22_method_2_code 1 (some .boolean) :: ws) ({ frames := 2, cells := 6, slots := 60, locals := 28 } : Room)) (fun a U => a = #[(.ref r0)] ∧ Z.Warmed39 U.vm ∧ U.heap = h0 ∧ CHv Z own_EL U.vm h0) (fun _ _ _ _ _ => True) (fun _ U o U' => ∃ v L, o = .returned v ∧ Q_rmR Z r0 zc fm rt kb cs h0 n0 v U'.heap L ∧ CHr Z own_EL U.vm U.heap U'.vm U'.heap ∧ ReturnedEndW U o U' L ({ frames := 2, cells := 6, slots := 60, locals := 28 } : Room).cells ({ frames := 2, cells := 6, slots := 60, locals := 28 } : Room).slots) := by
  refine MetFree.of_bodySF (plainFor_of_name pn_2) hisR ?_
  intro p e s m args below meth c s₁ Bd hml0 hP hK
  obtain ⟨rfl, hZ, hh, hC0⟩ := hP
  have hx := Bd.exec
  have hby := Bd.bytes
  have hml : c.maxLocals = 1 := hml0
  have hown : s.vm.findClass "com/example/wireform/wireform/json/Json" = some m.cls := findClass_of_methodNamed Bd.named
  have hnm := (name_of_methodNamed Bd.named Bd.method).1
  have X0 : Stand p l e ({ frames := 2, cells := 6, slots := 60, locals := 28 } : Room) (s.setVm s.vm) m #[(.ref r0)] below meth c s₁ [] 0 0 := Stand.of_body Bd
  have e0 : s₁.heap = h0 := by rw [← hh, Bd.state]; rfl
  have N0 := Fr.nil n0
  have pre0 : ∀ t, Steps p.tables e below (s₁.setTop (mkF m 0 #[vr r0] [])) t → Steps p.tables e below (s₁.setTop (entryFrame m #[(.ref r0)] 1)) t := fun t k => castTop (ef_22 m r0) k
  have hS0 : s.Since s.vm 0 := (State.WarmedH.refl s).since _
  have hk0 : 0 ≤ h0.size := Nat.zero_le _
  have R0 := CHr.refl hC0
  obtain ⟨b1, T1, h1, kk1, t1, kc1, X1, e1, E1, hS1, hk1, hZ1, hown1, fE1, fC1, fV1, fK1, lta1, ltb1, CH1, -, SF1, st1⟩ := ldcCH X0 hx hZ hown (wd hw 74 rfl) (fun d hd => hw d (own_strAtoms d hd)) e0 hS0 hk0 (own_EW hw) (by decide) hC0 (vs := [(.int (64 : Int32)), (.int (116 : Int32)), (.int (121 : Int32)), (.int (112 : Int32)), (.int (101 : Int32))]) (z := (5 : Int32)) ⟨by decide, by decide⟩ (by decide) (by decide) (g := (mkF m 1 #[vr r0] [(.ref r0)])) rfl (hb hby d15_1) (n := 20) (by decide) (by decide) (by decide) (by decide)
  have Re2 := R0.trans CH1
  have hCe2 := Re2.1
  have K1 : Keep h0 h1 [] := (Keep.refl h0 []).ext E1
  have Z1 : n0 ≤ h1.size := Nat.le_trans Z0 E1.1
  have c4 := (uE.ext E1)
  have c5 := (uv.ext E1)
  have c6 := (uc.ext E1)
  have c7 := (uV.ext E1)
  have c8 := (uO.ext E1)
  obtain ⟨cq3, kq3, q3a, q3b, q3c⟩ := isOf hZ1 e1 c4
  obtain ⟨_, _, ⟨T3, Lw3, kw3, nw3⟩, -, X3, ⟨Lc3, hQ3, lq3, yq3, zq3⟩, st3⟩ := X1.virtualBack hx (y := (⟨"java/lang/String", "equals", "(Ljava/lang/Object;)Z"⟩ : MethodName)) (z := (⟨"java/lang/String", "equals", "(Ljava/lang/Object;)Z"⟩ : MethodName)) hown1 (mvT hZ1 (wd hw 75 rfl)) (mvT hZ1 (wd hw 76 rfl)) (notFace_of_selects (args := #[]) (mvT hZ1 (wd hw 78 rfl))) (mvT hZ1 (wd hw 78 rfl)) (mvT hZ1 (wd hw 77 rfl)) (by decide) (StrChars.Road.eqW (W := 0) hZ1 (fun d hd => hw d (own_w_wordsEq d hd)) (kI := 4) (wd hw 13 rfl) c4 c5 c6 c7 (StrChars.Road.codOf (cs := cs) (n := cs.length) rfl (fun c hc => (uB c hc).2)) (own_up uB) uL fE1 fV1 fC1 fK1 (StrChars.Road.codOf (cs := ([64, 116, 121, 112, 101] : List Int32)) (n := 5) rfl (fun c hc => (own_hp0 c hc).2)) (own_up own_hp0) (Nat.le_of_ble_eq_true rfl) (uS.ext c8.2) uP (by decide) (by decide)) q3a q3c (g := (mkF m 3 #[vr r0] [(.ref b1), (.ref r0)])) rfl (by rw [hml]; rfl) (Steps.refl _) (argsL := [(.ref b1)]) (rest := []) (lenOf pd_6 rfl) rfl (by show 2 * 0 + _ ≤ _; exact Nat.le_of_eq rfl) (hb hby d15_3) (fun _ _ => ⟨rfl, e1, (by decide : 2 + 0 ≤ _), (by decide : 24 + 0 ≤ _)⟩)
  dsimp only [Pt.U, Pt.locs, Pt.cells, Pt.slots] at X3 lq3 yq3 zq3 st3 hQ3
  have X3 := own_reb X3 lq3 yq3 zq3
  obtain ⟨ho3, rfl, eh3⟩ := hQ3; obtain rfl := own_eqv ho3
  have N3 := Fr.app N0 (Fr.nil n0)
  have sg9 : ∀ target, SS p e below T3 (mkF m 6 #[vr r0] [(.int (if cs = ([64, 116, 121, 112, 101] : List Int32) then (1 : Int32) else (0 : Int32)))]) target → SS p e below s₁ (mkF m 0 #[vr r0] []) target := by
    intro target kt
    show SS p e below s₁ (mkF m 0 #[vr r0] []) _
    refine XS.aloadN X0.here hx rfl (hb hby d15_0) rfl rfl ?_
    show SS p e below s₁ (mkF m 1 #[vr r0] [(.ref r0)]) _
    refine st1 _ ?_
    show SS p e below T1 (mkF m 3 #[vr r0] [(.ref b1), (.ref r0)]) _
    refine st3.trans ?_
    exact kt
  by_cases he1 : cs = ([64, 116, 121, 112, 101] : List Int32)
  · obtain ⟨fs, hr, hrun, hended, en1, en2, en3, en4⟩ := X3.leaveW hS1 (own_hk eh3 hk1) (v := some (.int (nar .boolean (1 : Int32)))) (fun h => by rw [Bd.returns] at h; cases h)
    refine ⟨_, _, pre0 _ ?_, hrun, hended, _, _, rfl, ?_, own_chr (T := T3) hh eh3 (Re2.trans (CHv.at X3 hZ1 (own_EW hw) hCe2)), en1, en2, en3, en4.mono (by decide) (by decide)⟩
    · refine sg9 _ ?_
      show SS p e below T3 (mkF m 6 #[vr r0] [(.int (if cs = ([64, 116, 121, 112, 101] : List Int32) then (1 : Int32) else (0 : Int32)))]) _
      rw [if_pos he1]
      show SS p e below T3 (mkF m 6 #[vr r0] [(.int (1 : Int32))]) _
      refine XS.ifYes X3.here hx rfl (pc0 := 6) (pc' := 27) rfl (hb hby d15_6) rfl ((if0 _ _).trans (feq (by decide : ¬ ((1 : Int32) = (0 : Int32)))).2) (by decide) (by decide) ?_
      show SS p e below T3 (mkF m 27 #[vr r0] []) _
      refine XS.iconst X3.here hx rfl (hb hby d15_27) ?_
      show SS p e below T3 (mkF m 28 #[vr r0] [(.int (1 : Int32))]) _
      refine XS.goto X3.here hx rfl (pc0 := 28) (pc' := 32) rfl (hb hby d15_28) (by decide) (by decide) ?_
      show SS p e below T3 (mkF m 32 #[vr r0] [(.int (1 : Int32))]) _
      exact retN X3 hx (t := .boolean) Bd.returns (by simp) (hb hby d15_32) hr
    · show Q_rmR Z r0 zc fm rt kb cs h0 n0 _ T3.heap _
      rw [eh3]
      exact ⟨(by rw [own_res, if_pos he1]; rfl), N3, K1⟩
  · obtain ⟨b10, T10, h10, kk10, t10, kc10, X10, e10, E10, hS10, hk10, hZ10, hown10, fE10, fC10, fV10, fK10, lta10, ltb10, CH10, -, SF10, st10⟩ := ldcCH X3 hx hZ1 hown1 (wd hw 84 rfl) (fun d hd => hw d (own_strAtoms d hd)) eh3 hS1 hk1 (own_EW hw) (by decide) hCe2 (vs := [(.int (64 : Int32)), (.int (105 : Int32)), (.int (100 : Int32))]) (z := (3 : Int32)) ⟨by decide, by decide⟩ (by decide) (by decide) (g := (mkF m 10 #[vr r0] [(.ref r0)])) rfl (hb hby d15_10) (n := 12) (by decide) (by decide) (by decide) (by decide)
    have Re11 := Re2.trans CH10
    have hCe11 := Re11.1
    have K10 : Keep h0 h10 [] := K1.ext E10
    have Z10 : n0 ≤ h10.size := Nat.le_trans Z1 E10.1
    have c13 := (c4.ext E10)
    have c14 := (c5.ext E10)
    have c15 := (c6.ext E10)
    have c16 := (c7.ext E10)
    have c17 := (c8.ext E10)
    obtain ⟨cq12, kq12, q12a, q12b, q12c⟩ := isOf hZ10 e10 c13
    obtain ⟨_, _, ⟨T12, Lw12, kw12, nw12⟩, -, X12, ⟨Lc12, hQ12, lq12, yq12, zq12⟩, st12⟩ := X10.virtualBack hx (y := (⟨"java/lang/String", "equals", "(Ljava/lang/Object;)Z"⟩ : MethodName)) (z := (⟨"java/lang/String", "equals", "(Ljava/lang/Object;)Z"⟩ : MethodName)) hown10 (mvT hZ10 (wd hw 75 rfl)) (mvT hZ10 (wd hw 76 rfl)) (notFace_of_selects (args := #[]) (mvT hZ10 (wd hw 78 rfl))) (mvT hZ10 (wd hw 78 rfl)) (mvT hZ10 (wd hw 77 rfl)) (by decide) (StrChars.Road.eqW (W := 0) hZ10 (fun d hd => hw d (own_w_wordsEq d hd)) (kI := 4) (wd hw 13 rfl) c13 c14 c15 c16 (StrChars.Road.codOf (cs := cs) (n := cs.length) rfl (fun c hc => (uB c hc).2)) (own_up uB) uL fE10 fV10 fC10 fK10 (StrChars.Road.codOf (cs := ([64, 105, 100] : List Int32)) (n := 3) rfl (fun c hc => (own_hp1 c hc).2)) (own_up own_hp1) (Nat.le_of_ble_eq_true rfl) (uS.ext c17.2) uP (by decide) (by decide)) q12a q12c (g := (mkF m 12 #[vr r0] [(.ref b10), (.ref r0)])) rfl (by rw [hml]; rfl) (Steps.refl _) (argsL := [(.ref b10)]) (rest := []) (lenOf pd_6 rfl) rfl (by show 2 * 0 + _ ≤ _; exact Nat.le_of_eq rfl) (hb hby d15_12) (fun _ _ => ⟨rfl, e10, (by decide : 4 + 0 ≤ _), (by decide : 40 + 0 ≤ _)⟩)
    dsimp only [Pt.U, Pt.locs, Pt.cells, Pt.slots] at X12 lq12 yq12 zq12 st12 hQ12
    have X12 := own_reb X12 lq12 yq12 zq12
    obtain ⟨ho12, rfl, eh12⟩ := hQ12; obtain rfl := own_eqv ho12
    have N12 := Fr.app N3 (Fr.nil n0)
    have sg18 : ∀ target, SS p e below T12 (mkF m 15 #[vr r0] [(.int (if cs = ([64, 105, 100] : List Int32) then (1 : Int32) else (0 : Int32)))]) target → SS p e below T3 (mkF m 6 #[vr r0] [(.int (if cs = ([64, 116, 121, 112, 101] : List Int32) then (1 : Int32) else (0 : Int32)))]) target := by
      intro target kt
      show SS p e below T3 (mkF m 6 #[vr r0] [(.int (if cs = ([64, 116, 121, 112, 101] : List Int32) then (1 : Int32) else (0 : Int32)))]) _
      rw [if_neg he1]
      show SS p e below T3 (mkF m 6 #[vr r0] [(.int (0 : Int32))]) _
      refine XS.ifNo X3.here hx rfl (hb hby d15_6) rfl ((if0 _ _).trans (teq (by decide : (0 : Int32) = (0 : Int32))).2) ?_
      show SS p e below T3 (mkF m 9 #[vr r0] []) _
      refine XS.aloadN X3.here hx rfl (hb hby d15_9) rfl rfl ?_
      show SS p e below T3 (mkF m 10 #[vr r0] [(.ref r0)]) _
      refine st10 _ ?_
      show SS p e below T10 (mkF m 12 #[vr r0] [(.ref b10), (.ref r0)]) _
      refine st12.trans ?_
      exact kt
    by_cases he2 : cs = ([64, 105, 100] : List Int32)
    · obtain ⟨fs, hr, hrun, hended, en1, en2, en3, en4⟩ := X12.leaveW hS10 (own_hk eh12 hk10) (v := some (.int (nar .boolean (1 : Int32)))) (fun h => by rw [Bd.returns] at h; cases h)
      refine ⟨_, _, pre0 _ ?_, hrun, hended, _, _, rfl, ?_, own_chr (T := T12) hh eh12 (Re11.trans (CHv.at X12 hZ10 (own_EW hw) hCe11)), en1, en2, en3, en4.mono (by decide) (by decide)⟩
      · refine sg9 _ ?_
        refine sg18 _ ?_
        show SS p e below T12 (mkF m 15 #[vr r0] [(.int (if cs = ([64, 105, 100] : List Int32) then (1 : Int32) else (0 : Int32)))]) _
        rw [if_pos he2]
        show SS p e below T12 (mkF m 15 #[vr r0] [(.int (1 : Int32))]) _
        refine XS.ifYes X12.here hx rfl (pc0 := 15) (pc' := 27) rfl (hb hby d15_15) rfl ((if0 _ _).trans (feq (by decide : ¬ ((1 : Int32) = (0 : Int32)))).2) (by decide) (by decide) ?_
        show SS p e below T12 (mkF m 27 #[vr r0] []) _
        refine XS.iconst X12.here hx rfl (hb hby d15_27) ?_
        show SS p e below T12 (mkF m 28 #[vr r0] [(.int (1 : Int32))]) _
        refine XS.goto X12.here hx rfl (pc0 := 28) (pc' := 32) rfl (hb hby d15_28) (by decide) (by decide) ?_
        show SS p e below T12 (mkF m 32 #[vr r0] [(.int (1 : Int32))]) _
        exact retN X12 hx (t := .boolean) Bd.returns (by simp) (hb hby d15_32) hr
      · show Q_rmR Z r0 zc fm rt kb cs h0 n0 _ T12.heap _
        rw [eh12]
        exact ⟨(by rw [own_res, if_neg he1, if_pos he2]; rfl), N12, K10⟩
    · obtain ⟨b19, T19, h19, kk19, t19, kc19, X19, e19, E19, hS19, hk19, hZ19, hown19, fE19, fC19, fV19, fK19, lta19, ltb19, CH19, -, SF19, st19⟩ := ldcCH X12 hx hZ10 hown10 (wd hw 85 rfl) (fun d hd => hw d (own_strAtoms d hd)) eh12 hS10 hk10 (own_EW hw) (by decide) hCe11 (vs := [(.int (64 : Int32)), (.int (114 : Int32)), (.int (101 : Int32)), (.int (102 : Int32))]) (z := (4 : Int32)) ⟨by decide, by decide⟩ (by decide) (by decide) (g := (mkF m 19 #[vr r0] [(.ref r0)])) rfl (hb hby d15_19) (n := 16) (by decide) (by decide) (by decide) (by decide)
      have Re20 := Re11.trans CH19
      have hCe20 := Re20.1
      have K19 : Keep h0 h19 [] := K10.ext E19
      have Z19 : n0 ≤ h19.size := Nat.le_trans Z10 E19.1
      have c22 := (c13.ext E19)
      have c23 := (c14.ext E19)
      have c24 := (c15.ext E19)
      have c25 := (c16.ext E19)
      have c26 := (c17.ext E19)
      obtain ⟨cq21, kq21, q21a, q21b, q21c⟩ := isOf hZ19 e19 c22
      obtain ⟨_, _, ⟨T21, Lw21, kw21, nw21⟩, -, X21, ⟨Lc21, hQ21, lq21, yq21, zq21⟩, st21⟩ := X19.virtualBack hx (y := (⟨"java/lang/String", "equals", "(Ljava/lang/Object;)Z"⟩ : MethodName)) (z := (⟨"java/lang/String", "equals", "(Ljava/lang/Object;)Z"⟩ : MethodName)) hown19 (mvT hZ19 (wd hw 75 rfl)) (mvT hZ19 (wd hw 76 rfl)) (notFace_of_selects (args := #[]) (mvT hZ19 (wd hw 78 rfl))) (mvT hZ19 (wd hw 78 rfl)) (mvT hZ19 (wd hw 77 rfl)) (by decide) (StrChars.Road.eqW (W := 0) hZ19 (fun d hd => hw d (own_w_wordsEq d hd)) (kI := 4) (wd hw 13 rfl) c22 c23 c24 c25 (StrChars.Road.codOf (cs := cs) (n := cs.length) rfl (fun c hc => (uB c hc).2)) (own_up uB) uL fE19 fV19 fC19 fK19 (StrChars.Road.codOf (cs := ([64, 114, 101, 102] : List Int32)) (n := 4) rfl (fun c hc => (own_hp2 c hc).2)) (own_up own_hp2) (Nat.le_of_ble_eq_true rfl) (uS.ext c26.2) uP (by decide) (by decide)) q21a q21c (g := (mkF m 21 #[vr r0] [(.ref b19), (.ref r0)])) rfl (by rw [hml]; rfl) (Steps.refl _) (argsL := [(.ref b19)]) (rest := []) (lenOf pd_6 rfl) rfl (by show 2 * 0 + _ ≤ _; exact Nat.le_of_eq rfl) (hb hby d15_21) (fun _ _ => ⟨rfl, e19, (by decide : 6 + 0 ≤ _), (by decide : 60 + 0 ≤ _)⟩)
      dsimp only [Pt.U, Pt.locs, Pt.cells, Pt.slots] at X21 lq21 yq21 zq21 st21 hQ21
      have X21 := own_reb X21 lq21 yq21 zq21
      obtain ⟨ho21, rfl, eh21⟩ := hQ21; obtain rfl := own_eqv ho21
      have N21 := Fr.app N12 (Fr.nil n0)
      have sg27 : ∀ target, SS p e below T21 (mkF m 24 #[vr r0] [(.int (if cs = ([64, 114, 101, 102] : List Int32) then (1 : Int32) else (0 : Int32)))]) target → SS p e below T12 (mkF m 15 #[vr r0] [(.int (if cs = ([64, 105, 100] : List Int32) then (1 : Int32) else (0 : Int32)))]) target := by
        intro target kt
        show SS p e below T12 (mkF m 15 #[vr r0] [(.int (if cs = ([64, 105, 100] : List Int32) then (1 : Int32) else (0 : Int32)))]) _
        rw [if_neg he2]
        show SS p e below T12 (mkF m 15 #[vr r0] [(.int (0 : Int32))]) _
        refine XS.ifNo X12.here hx rfl (hb hby d15_15) rfl ((if0 _ _).trans (teq (by decide : (0 : Int32) = (0 : Int32))).2) ?_
        show SS p e below T12 (mkF m 18 #[vr r0] []) _
        refine XS.aloadN X12.here hx rfl (hb hby d15_18) rfl rfl ?_
        show SS p e below T12 (mkF m 19 #[vr r0] [(.ref r0)]) _
        refine st19 _ ?_
        show SS p e below T19 (mkF m 21 #[vr r0] [(.ref b19), (.ref r0)]) _
        refine st21.trans ?_
        exact kt
      by_cases he3 : cs = ([64, 114, 101, 102] : List Int32)
      · obtain ⟨fs, hr, hrun, hended, en1, en2, en3, en4⟩ := X21.leaveW hS19 (own_hk eh21 hk19) (v := some (.int (nar .boolean (1 : Int32)))) (fun h => by rw [Bd.returns] at h; cases h)
        refine ⟨_, _, pre0 _ ?_, hrun, hended, _, _, rfl, ?_, own_chr (T := T21) hh eh21 (Re20.trans (CHv.at X21 hZ19 (own_EW hw) hCe20)), en1, en2, en3, en4.mono (by decide) (by decide)⟩
        · refine sg9 _ ?_
          refine sg18 _ ?_
          refine sg27 _ ?_
          show SS p e below T21 (mkF m 24 #[vr r0] [(.int (if cs = ([64, 114, 101, 102] : List Int32) then (1 : Int32) else (0 : Int32)))]) _
          rw [if_pos he3]
          show SS p e below T21 (mkF m 24 #[vr r0] [(.int (1 : Int32))]) _
          refine XS.ifNo X21.here hx rfl (hb hby d15_24) rfl ((if0 _ _).trans (feq (by decide : ¬ ((1 : Int32) = (0 : Int32)))).1) ?_
          show SS p e below T21 (mkF m 27 #[vr r0] []) _
          refine XS.iconst X21.here hx rfl (hb hby d15_27) ?_
          show SS p e below T21 (mkF m 28 #[vr r0] [(.int (1 : Int32))]) _
          refine XS.goto X21.here hx rfl (pc0 := 28) (pc' := 32) rfl (hb hby d15_28) (by decide) (by decide) ?_
          show SS p e below T21 (mkF m 32 #[vr r0] [(.int (1 : Int32))]) _
          exact retN X21 hx (t := .boolean) Bd.returns (by simp) (hb hby d15_32) hr
        · show Q_rmR Z r0 zc fm rt kb cs h0 n0 _ T21.heap _
          rw [eh21]
          exact ⟨(by rw [own_res, if_neg he1, if_neg he2, if_pos he3]; rfl), N21, K19⟩
      · obtain ⟨fs, hr, hrun, hended, en1, en2, en3, en4⟩ := X21.leaveW hS19 (own_hk eh21 hk19) (v := some (.int (nar .boolean (0 : Int32)))) (fun h => by rw [Bd.returns] at h; cases h)
        refine ⟨_, _, pre0 _ ?_, hrun, hended, _, _, rfl, ?_, own_chr (T := T21) hh eh21 (Re20.trans (CHv.at X21 hZ19 (own_EW hw) hCe20)), en1, en2, en3, en4.mono (by decide) (by decide)⟩
        · refine sg9 _ ?_
          refine sg18 _ ?_
          refine sg27 _ ?_
          show SS p e below T21 (mkF m 24 #[vr r0] [(.int (if cs = ([64, 114, 101, 102] : List Int32) then (1 : Int32) else (0 : Int32)))]) _
          rw [if_neg he3]
          show SS p e below T21 (mkF m 24 #[vr r0] [(.int (0 : Int32))]) _
          refine XS.ifYes X21.here hx rfl (pc0 := 24) (pc' := 31) rfl (hb hby d15_24) rfl ((if0 _ _).trans (teq (by decide : (0 : Int32) = (0 : Int32))).1) (by decide) (by decide) ?_
          show SS p e below T21 (mkF m 31 #[vr r0] []) _
          refine XS.iconst X21.here hx rfl (hb hby d15_31) ?_
          show SS p e below T21 (mkF m 32 #[vr r0] [(.int (0 : Int32))]) _
          exact retN X21 hx (t := .boolean) Bd.returns (by simp) (hb hby d15_32) hr
        · show Q_rmR Z r0 zc fm rt kb cs h0 n0 _ T21.heap _
          rw [eh21]
          exact ⟨(by rw [own_res, if_neg he1, if_neg he2, if_neg he3]; rfl), N21, K19⟩
theorem ef_23 (m : MethodId) (x0 : Int32) (x1 : Int64) : entryFrame m #[(.int x0), (.long x1)] maxLocals = mkF m 0 #[vi x0, vl x1, us, uu, uu, uu, uu, uu, uu, uu, uu, uu, uu, uu] [] := by first | (simp [entryFrame, mkF, argsToLocals, Value.category, maxLocals]; done) | rfl
theorem pd_7 : parseMethodDescriptor "(IIIJ)C" = some ⟨[.int, .int, .int, .long], some .char⟩ := by decide +kernel
theorem pd_8 : parseMethodDescriptor "(ICCCCCC)Ljava/lang/String;" = some ⟨[.int, .char, .char, .char, .char, .char, .char], some (.object "java/lang/String")⟩ := by decide +kernel
theorem pd_9 : parseMethodDescriptor "(Ljava/lang/String;)Z" = some ⟨[(.object "java/lang/String")], some .boolean⟩ := by decide +kernel
def Q_rm0 (Z : State) (p0 : Int32) (q1 : Int64) (zc : Int32) (fm : Value) (vL : Int32) (vK : Int32) (vM : Int32) (h0 : Heap) (n0 : Nat) (v : Option Value) (h : Heap) (L : List Loc) : Prop := (v = some (.int 1) ∧ Fr n0 L)
set_option maxRecDepth 65536 in
set_option maxHeartbeats 40000000 in
theorem rm0 (l : Launch) (Z : State) (a0 : Array Value) (hw : ∀ d ∈ tables_1, d.before a0 Z = true) (ws : List Jvm.Cond) (p0 : Int32) (q1 : Int64) (zc : Int32) (fm : Value) (vL : Int32) (vK : Int32) (vM : Int32) (h0 : Heap) (n0 : Nat) (Z0 : n0 ≤ h0.size) (uO : Old Z n0 h0) (uS : Sta Z Z.heap "java/lang/String" "COMPACT_STRINGS" "Z" (.int zc)) (uF : Sta Z Z.heap "jdk/internal/util/Preconditions" "SIOOBE_FORMATTER" "Ljava/util/function/BiFunction;" fm) (uP : ¬ zc = 0) (uR : fm.isRef = true) (uLen : ((p0 &&& (7 : Int32)) % (7 : Int32)) = vL) (uK : (((p0.toUInt32 >>> ((3 : Int32) &&& 31).toUInt32).toInt32) &&& (3 : Int32)) = vK) (uM : (((p0.toUInt32 >>> ((5 : Int32) &&& 31).toUInt32).toInt32) &&& (7 : Int32)) = vM) (u7 : vL = (0 : Int32) ∨ vL = (1 : Int32) ∨ vL = (2 : Int32) ∨ vL = (3 : Int32) ∨ vL = (4 : Int32) ∨ vL = (5 : Int32) ∨ vL = (6 : Int32)) :
    MetFree l x (head1 (Jvm.Cond.code x code maxLocals ret :: ws) room_1) (fun a U => a = #[(.int p0), (.long q1)] ∧ Z.Warmed39 U.vm ∧ U.heap = h0 ∧ CHv Z own_EL U.vm h0) (fun _ _ _ _ _ => True) (fun _ U o U' => ∃ v L, o = .returned v ∧ Q_rm0 Z p0 q1 zc fm vL vK vM h0 n0 v U'.heap L ∧ CHr Z own_EL U.vm U.heap U'.vm U'.heap ∧ ReturnedEndW U o U' L room_1.cells room_1.slots) := by
  refine MetFree.of_bodySF (plainFor_of_name pn_0) hisR ?_
  intro p e s m args below meth c s₁ Bd hml0 hP hK
  obtain ⟨rfl, hZ, hh, hC0⟩ := hP
  have hx := Bd.exec
  have hby := Bd.bytes
  have hml : c.maxLocals = 14 := hml0
  have hown : s.vm.findClass "com/example/wireform/wireform/json/JsonIsReservedPinLaw" = some m.cls := findClass_of_methodNamed Bd.named
  have hnm := (name_of_methodNamed Bd.named Bd.method).1
  have X0 : Stand p l e room_1 (s.setVm s.vm) m #[(.int p0), (.long q1)] below meth c s₁ [] 0 0 := Stand.of_body Bd
  have e0 : s₁.heap = h0 := by rw [← hh, Bd.state]; rfl
  have N0 := Fr.nil n0
  have pre0 : ∀ t, Steps p.tables e below (s₁.setTop (mkF m 0 #[vi p0, vl q1, us, uu, uu, uu, uu, uu, uu, uu, uu, uu, uu, uu] [])) t → Steps p.tables e below (s₁.setTop (entryFrame m #[(.int p0), (.long q1)] maxLocals)) t := fun t k => castTop (ef_23 m p0 q1) k
  have hS0 : s.Since s.vm 0 := (State.WarmedH.refl s).since _
  have hk0 : 0 ≤ h0.size := Nat.zero_le _
  have R0 := CHr.refl hC0
  obtain ⟨_, _, ⟨T1, Lw1, kw1, nw1⟩, -, X1', hS1', hg1, ⟨Lc1, hQ1, lq1, yq1, zq1, CH1⟩, st1⟩ := callSS X0 hx (y := (⟨"com/example/wireform/wireform/json/JsonIsReservedPinLaw", "pick", "(IIIJ)C"⟩ : MethodName)) hown (mvT hZ (wd hw 0 rfl)) (mvT hZ (wd hw 1 rfl)) (mvT hZ (wd hw 2 rfl)) (mvT hZ (wd hw 3 rfl)) (by decide) (backOfSH (W := 0) (rmP0 l Z a0 hw [] vK vM q1 zc fm h0 n0 Z0 uO uS uF uP uR) hZ (wd hw 3 rfl) (wd hw 2 rfl) (by decide) (by decide) (own_EW hw) hC0) (g := (mkF m 29 #[vi p0, vl q1, us, vi vL, vi vK, vi vM, uu, uu, uu, uu, uu, uu, uu, uu] [(.long q1), (.int vM), (.int (0 : Int32)), (.int vK)])) rfl (by rw [hml]; rfl) (argsL := [(.int vK), (.int (0 : Int32)), (.int vM), (.long q1)]) (rest := []) (lenOf pd_7 rfl) rfl (by show 2 * 0 + _ ≤ _; exact Nat.le_of_eq rfl) (hb hby at_29) (fun _ _ => ⟨rfl, e0, (by decide : 0 + 2 ≤ _), (by decide : 0 + 24 ≤ _)⟩)
  dsimp only [Pt.U, Pt.locs, Pt.cells, Pt.slots] at X1' hS1' hg1 lq1 yq1 zq1 st1 hQ1 CH1
  have X1' := own_reb X1' lq1 yq1 zq1
  obtain ⟨X1, hS1, hZ1, hown1⟩ := rebS hS0 (own_hk e0 hk0) X1' hS1' hg1 hZ hown
  obtain ⟨cv_1, rfl, Nq1, Kq1, f1_0⟩ := hQ1
  have N1 := Fr.app N0 Nq1
  have Re2 := R0.trans CH1
  have hCe2 := Re2.1
  have K1 : Keep h0 T1.heap [] := (Keep.refl h0 []).trans Kq1 all0
  have Z1 : n0 ≤ T1.heap.size := Nat.le_trans Z0 Kq1.1
  have hk1 : T1.heap.size ≤ T1.heap.size := Nat.le_refl _
  have c4 := (uO.keep Kq1 all0)
  obtain ⟨_, _, ⟨T3, Lw3, kw3, nw3⟩, -, X3', hS3', hg3, ⟨Lc3, hQ3, lq3, yq3, zq3, CH3⟩, st3⟩ := callSS X1 hx (y := (⟨"com/example/wireform/wireform/json/JsonIsReservedPinLaw", "pick", "(IIIJ)C"⟩ : MethodName)) hown1 (mvT hZ1 (wd hw 0 rfl)) (mvT hZ1 (wd hw 1 rfl)) (mvT hZ1 (wd hw 2 rfl)) (mvT hZ1 (wd hw 3 rfl)) (by decide) (backOfSH (W := 0) (rmP1 l Z a0 hw [] vK vM q1 zc fm T1.heap n0 Z1 c4 uS uF uP uR) hZ1 (wd hw 3 rfl) (wd hw 2 rfl) (by decide) (by decide) (own_EW hw) hCe2) (g := (mkF m 40 #[vi p0, vl q1, us, vi vL, vi vK, vi vM, vi cv_1, uu, uu, uu, uu, uu, uu, uu] [(.long q1), (.int vM), (.int (1 : Int32)), (.int vK)])) rfl (by rw [hml]; rfl) (argsL := [(.int vK), (.int (1 : Int32)), (.int vM), (.long q1)]) (rest := []) (lenOf pd_7 rfl) rfl (by show 2 * 0 + _ ≤ _; exact Nat.le_of_eq rfl) (hb hby at_40) (fun _ _ => ⟨rfl, rfl, (by decide : 2 + 2 ≤ _), (by decide : 24 + 24 ≤ _)⟩)
  dsimp only [Pt.U, Pt.locs, Pt.cells, Pt.slots] at X3' hS3' hg3 lq3 yq3 zq3 st3 hQ3 CH3
  have X3' := own_reb X3' lq3 yq3 zq3
  obtain ⟨X3, hS3, hZ3, hown3⟩ := rebS hS1 (own_hk rfl hk1) X3' hS3' hg3 hZ1 hown1
  obtain ⟨cv_3, rfl, Nq3, Kq3, f3_0⟩ := hQ3
  have N3 := Fr.app N1 Nq3
  have Re5 := Re2.trans CH3
  have hCe5 := Re5.1
  have K3 : Keep h0 T3.heap [] := K1.trans Kq3 all0
  have Z3 : n0 ≤ T3.heap.size := Nat.le_trans Z1 Kq3.1
  have hk3 : T3.heap.size ≤ T3.heap.size := Nat.le_refl _
  have c7 := (c4.keep Kq3 all0)
  obtain ⟨_, _, ⟨T6, Lw6, kw6, nw6⟩, -, X6', hS6', hg6, ⟨Lc6, hQ6, lq6, yq6, zq6, CH6⟩, st6⟩ := callSS X3 hx (y := (⟨"com/example/wireform/wireform/json/JsonIsReservedPinLaw", "pick", "(IIIJ)C"⟩ : MethodName)) hown3 (mvT hZ3 (wd hw 0 rfl)) (mvT hZ3 (wd hw 1 rfl)) (mvT hZ3 (wd hw 2 rfl)) (mvT hZ3 (wd hw 3 rfl)) (by decide) (backOfSH (W := 0) (rmP2 l Z a0 hw [] vK vM q1 zc fm T3.heap n0 Z3 c7 uS uF uP uR) hZ3 (wd hw 3 rfl) (wd hw 2 rfl) (by decide) (by decide) (own_EW hw) hCe5) (g := (mkF m 51 #[vi p0, vl q1, us, vi vL, vi vK, vi vM, vi cv_1, vi cv_3, uu, uu, uu, uu, uu, uu] [(.long q1), (.int vM), (.int (2 : Int32)), (.int vK)])) rfl (by rw [hml]; rfl) (argsL := [(.int vK), (.int (2 : Int32)), (.int vM), (.long q1)]) (rest := []) (lenOf pd_7 rfl) rfl (by show 2 * 0 + _ ≤ _; exact Nat.le_of_eq rfl) (hb hby at_51) (fun _ _ => ⟨rfl, rfl, (by decide : 4 + 2 ≤ _), (by decide : 48 + 24 ≤ _)⟩)
  dsimp only [Pt.U, Pt.locs, Pt.cells, Pt.slots] at X6' hS6' hg6 lq6 yq6 zq6 st6 hQ6 CH6
  have X6' := own_reb X6' lq6 yq6 zq6
  obtain ⟨X6, hS6, hZ6, hown6⟩ := rebS hS3 (own_hk rfl hk3) X6' hS6' hg6 hZ3 hown3
  obtain ⟨cv_6, rfl, Nq6, Kq6, f6_0⟩ := hQ6
  have N6 := Fr.app N3 Nq6
  have Re8 := Re5.trans CH6
  have hCe8 := Re8.1
  have K6 : Keep h0 T6.heap [] := K3.trans Kq6 all0
  have Z6 : n0 ≤ T6.heap.size := Nat.le_trans Z3 Kq6.1
  have hk6 : T6.heap.size ≤ T6.heap.size := Nat.le_refl _
  have c10 := (c7.keep Kq6 all0)
  obtain ⟨_, _, ⟨T9, Lw9, kw9, nw9⟩, -, X9', hS9', hg9, ⟨Lc9, hQ9, lq9, yq9, zq9, CH9⟩, st9⟩ := callSS X6 hx (y := (⟨"com/example/wireform/wireform/json/JsonIsReservedPinLaw", "pick", "(IIIJ)C"⟩ : MethodName)) hown6 (mvT hZ6 (wd hw 0 rfl)) (mvT hZ6 (wd hw 1 rfl)) (mvT hZ6 (wd hw 2 rfl)) (mvT hZ6 (wd hw 3 rfl)) (by decide) (backOfSH (W := 0) (rmP3 l Z a0 hw [] vK vM q1 zc fm T6.heap n0 Z6 c10 uS uF uP uR) hZ6 (wd hw 3 rfl) (wd hw 2 rfl) (by decide) (by decide) (own_EW hw) hCe8) (g := (mkF m 62 #[vi p0, vl q1, us, vi vL, vi vK, vi vM, vi cv_1, vi cv_3, vi cv_6, uu, uu, uu, uu, uu] [(.long q1), (.int vM), (.int (3 : Int32)), (.int vK)])) rfl (by rw [hml]; rfl) (argsL := [(.int vK), (.int (3 : Int32)), (.int vM), (.long q1)]) (rest := []) (lenOf pd_7 rfl) rfl (by show 2 * 0 + _ ≤ _; exact Nat.le_of_eq rfl) (hb hby at_62) (fun _ _ => ⟨rfl, rfl, (by decide : 6 + 2 ≤ _), (by decide : 72 + 24 ≤ _)⟩)
  dsimp only [Pt.U, Pt.locs, Pt.cells, Pt.slots] at X9' hS9' hg9 lq9 yq9 zq9 st9 hQ9 CH9
  have X9' := own_reb X9' lq9 yq9 zq9
  obtain ⟨X9, hS9, hZ9, hown9⟩ := rebS hS6 (own_hk rfl hk6) X9' hS9' hg9 hZ6 hown6
  obtain ⟨cv_9, rfl, Nq9, Kq9, f9_0⟩ := hQ9
  have N9 := Fr.app N6 Nq9
  have Re11 := Re8.trans CH9
  have hCe11 := Re11.1
  have K9 : Keep h0 T9.heap [] := K6.trans Kq9 all0
  have Z9 : n0 ≤ T9.heap.size := Nat.le_trans Z6 Kq9.1
  have hk9 : T9.heap.size ≤ T9.heap.size := Nat.le_refl _
  have c13 := (c10.keep Kq9 all0)
  obtain ⟨_, _, ⟨T12, Lw12, kw12, nw12⟩, -, X12', hS12', hg12, ⟨Lc12, hQ12, lq12, yq12, zq12, CH12⟩, st12⟩ := callSS X9 hx (y := (⟨"com/example/wireform/wireform/json/JsonIsReservedPinLaw", "pick", "(IIIJ)C"⟩ : MethodName)) hown9 (mvT hZ9 (wd hw 0 rfl)) (mvT hZ9 (wd hw 1 rfl)) (mvT hZ9 (wd hw 2 rfl)) (mvT hZ9 (wd hw 3 rfl)) (by decide) (backOfSH (W := 0) (rmP4 l Z a0 hw [] vK vM q1 zc fm T9.heap n0 Z9 c13 uS uF uP uR) hZ9 (wd hw 3 rfl) (wd hw 2 rfl) (by decide) (by decide) (own_EW hw) hCe11) (g := (mkF m 73 #[vi p0, vl q1, us, vi vL, vi vK, vi vM, vi cv_1, vi cv_3, vi cv_6, vi cv_9, uu, uu, uu, uu] [(.long q1), (.int vM), (.int (4 : Int32)), (.int vK)])) rfl (by rw [hml]; rfl) (argsL := [(.int vK), (.int (4 : Int32)), (.int vM), (.long q1)]) (rest := []) (lenOf pd_7 rfl) rfl (by show 2 * 0 + _ ≤ _; exact Nat.le_of_eq rfl) (hb hby at_73) (fun _ _ => ⟨rfl, rfl, (by decide : 8 + 2 ≤ _), (by decide : 96 + 24 ≤ _)⟩)
  dsimp only [Pt.U, Pt.locs, Pt.cells, Pt.slots] at X12' hS12' hg12 lq12 yq12 zq12 st12 hQ12 CH12
  have X12' := own_reb X12' lq12 yq12 zq12
  obtain ⟨X12, hS12, hZ12, hown12⟩ := rebS hS9 (own_hk rfl hk9) X12' hS12' hg12 hZ9 hown9
  obtain ⟨cv_12, rfl, Nq12, Kq12, f12_0⟩ := hQ12
  have N12 := Fr.app N9 Nq12
  have Re14 := Re11.trans CH12
  have hCe14 := Re14.1
  have K12 : Keep h0 T12.heap [] := K9.trans Kq12 all0
  have Z12 : n0 ≤ T12.heap.size := Nat.le_trans Z9 Kq12.1
  have hk12 : T12.heap.size ≤ T12.heap.size := Nat.le_refl _
  have c16 := (c13.keep Kq12 all0)
  obtain ⟨_, _, ⟨T15, Lw15, kw15, nw15⟩, -, X15', hS15', hg15, ⟨Lc15, hQ15, lq15, yq15, zq15, CH15⟩, st15⟩ := callSS X12 hx (y := (⟨"com/example/wireform/wireform/json/JsonIsReservedPinLaw", "pick", "(IIIJ)C"⟩ : MethodName)) hown12 (mvT hZ12 (wd hw 0 rfl)) (mvT hZ12 (wd hw 1 rfl)) (mvT hZ12 (wd hw 2 rfl)) (mvT hZ12 (wd hw 3 rfl)) (by decide) (backOfSH (W := 0) (rmP5 l Z a0 hw [] vK vM q1 zc fm T12.heap n0 Z12 c16 uS uF uP uR) hZ12 (wd hw 3 rfl) (wd hw 2 rfl) (by decide) (by decide) (own_EW hw) hCe14) (g := (mkF m 84 #[vi p0, vl q1, us, vi vL, vi vK, vi vM, vi cv_1, vi cv_3, vi cv_6, vi cv_9, vi cv_12, uu, uu, uu] [(.long q1), (.int vM), (.int (5 : Int32)), (.int vK)])) rfl (by rw [hml]; rfl) (argsL := [(.int vK), (.int (5 : Int32)), (.int vM), (.long q1)]) (rest := []) (lenOf pd_7 rfl) rfl (by show 2 * 0 + _ ≤ _; exact Nat.le_of_eq rfl) (hb hby at_84) (fun _ _ => ⟨rfl, rfl, (by decide : 10 + 2 ≤ _), (by decide : 120 + 24 ≤ _)⟩)
  dsimp only [Pt.U, Pt.locs, Pt.cells, Pt.slots] at X15' hS15' hg15 lq15 yq15 zq15 st15 hQ15 CH15
  have X15' := own_reb X15' lq15 yq15 zq15
  obtain ⟨X15, hS15, hZ15, hown15⟩ := rebS hS12 (own_hk rfl hk12) X15' hS15' hg15 hZ12 hown12
  obtain ⟨cv_15, rfl, Nq15, Kq15, f15_0⟩ := hQ15
  have N15 := Fr.app N12 Nq15
  have Re17 := Re14.trans CH15
  have hCe17 := Re17.1
  have K15 : Keep h0 T15.heap [] := K12.trans Kq15 all0
  have Z15 : n0 ≤ T15.heap.size := Nat.le_trans Z12 Kq15.1
  have hk15 : T15.heap.size ≤ T15.heap.size := Nat.le_refl _
  have sg18 : ∀ target, SS p e below T15 (mkF m 102 #[vi p0, vl q1, us, vi vL, vi vK, vi vM, vi cv_1, vi cv_3, vi cv_6, vi cv_9, vi cv_12, vi cv_15, uu, uu] [(.int cv_15), (.int cv_12), (.int cv_9), (.int cv_6), (.int cv_3), (.int cv_1), (.int vL)]) target → SS p e below s₁ (mkF m 0 #[vi p0, vl q1, us, uu, uu, uu, uu, uu, uu, uu, uu, uu, uu, uu] []) target := by
    intro target kt
    show SS p e below s₁ (mkF m 0 #[vi p0, vl q1, us, uu, uu, uu, uu, uu, uu, uu, uu, uu, uu, uu] []) _
    refine XS.iloadN X0.here hx rfl (hb hby at_0) rfl ?_
    show SS p e below s₁ (mkF m 1 #[vi p0, vl q1, us, uu, uu, uu, uu, uu, uu, uu, uu, uu, uu, uu] [(.int p0)]) _
    refine XS.bipush X0.here hx rfl (hb hby at_1) ?_
    show SS p e below s₁ (mkF m 3 #[vi p0, vl q1, us, uu, uu, uu, uu, uu, uu, uu, uu, uu, uu, uu] [(.int (7 : Int32)), (.int p0)]) _
    refine XS.iand X0.here hx rfl (hb hby at_3) rfl ?_
    show SS p e below s₁ (mkF m 4 #[vi p0, vl q1, us, uu, uu, uu, uu, uu, uu, uu, uu, uu, uu, uu] [(.int (p0 &&& (7 : Int32)))]) _
    refine XS.bipush X0.here hx rfl (hb hby at_4) ?_
    show SS p e below s₁ (mkF m 6 #[vi p0, vl q1, us, uu, uu, uu, uu, uu, uu, uu, uu, uu, uu, uu] [(.int (7 : Int32)), (.int (p0 &&& (7 : Int32)))]) _
    refine iremM X0 hx rfl (hb hby at_6) rfl (by decide) ?_
    show SS p e below s₁ (mkF m 7 #[vi p0, vl q1, us, uu, uu, uu, uu, uu, uu, uu, uu, uu, uu, uu] [(.int ((p0 &&& (7 : Int32)) % (7 : Int32)))]) _
    rw [uLen]
    show SS p e below s₁ (mkF m 7 #[vi p0, vl q1, us, uu, uu, uu, uu, uu, uu, uu, uu, uu, uu, uu] [(.int vL)]) _
    refine XS.istoreN X0.here hx rfl (hb hby at_7) rfl (l' := #[vi p0, vl q1, us, vi vL, uu, uu, uu, uu, uu, uu, uu, uu, uu, uu]) rfl ?_
    show SS p e below s₁ (mkF m 8 #[vi p0, vl q1, us, vi vL, uu, uu, uu, uu, uu, uu, uu, uu, uu, uu] []) _
    refine XS.iloadN X0.here hx rfl (hb hby at_8) rfl ?_
    show SS p e below s₁ (mkF m 9 #[vi p0, vl q1, us, vi vL, uu, uu, uu, uu, uu, uu, uu, uu, uu, uu] [(.int p0)]) _
    refine XS.iconst X0.here hx rfl (hb hby at_9) ?_
    show SS p e below s₁ (mkF m 10 #[vi p0, vl q1, us, vi vL, uu, uu, uu, uu, uu, uu, uu, uu, uu, uu] [(.int (3 : Int32)), (.int p0)]) _
    refine XS.iushr X0.here hx rfl (hb hby at_10) rfl ?_
    show SS p e below s₁ (mkF m 11 #[vi p0, vl q1, us, vi vL, uu, uu, uu, uu, uu, uu, uu, uu, uu, uu] [(.int ((p0.toUInt32 >>> ((3 : Int32) &&& 31).toUInt32).toInt32))]) _
    refine XS.iconst X0.here hx rfl (hb hby at_11) ?_
    show SS p e below s₁ (mkF m 12 #[vi p0, vl q1, us, vi vL, uu, uu, uu, uu, uu, uu, uu, uu, uu, uu] [(.int (3 : Int32)), (.int ((p0.toUInt32 >>> ((3 : Int32) &&& 31).toUInt32).toInt32))]) _
    refine XS.iand X0.here hx rfl (hb hby at_12) rfl ?_
    show SS p e below s₁ (mkF m 13 #[vi p0, vl q1, us, vi vL, uu, uu, uu, uu, uu, uu, uu, uu, uu, uu] [(.int (((p0.toUInt32 >>> ((3 : Int32) &&& 31).toUInt32).toInt32) &&& (3 : Int32)))]) _
    rw [uK]
    show SS p e below s₁ (mkF m 13 #[vi p0, vl q1, us, vi vL, uu, uu, uu, uu, uu, uu, uu, uu, uu, uu] [(.int vK)]) _
    refine XS.istore X0.here hx rfl (hb hby at_13) rfl (l' := #[vi p0, vl q1, us, vi vL, vi vK, uu, uu, uu, uu, uu, uu, uu, uu, uu]) rfl ?_
    show SS p e below s₁ (mkF m 15 #[vi p0, vl q1, us, vi vL, vi vK, uu, uu, uu, uu, uu, uu, uu, uu, uu] []) _
    refine XS.iloadN X0.here hx rfl (hb hby at_15) rfl ?_
    show SS p e below s₁ (mkF m 16 #[vi p0, vl q1, us, vi vL, vi vK, uu, uu, uu, uu, uu, uu, uu, uu, uu] [(.int p0)]) _
    refine XS.iconst X0.here hx rfl (hb hby at_16) ?_
    show SS p e below s₁ (mkF m 17 #[vi p0, vl q1, us, vi vL, vi vK, uu, uu, uu, uu, uu, uu, uu, uu, uu] [(.int (5 : Int32)), (.int p0)]) _
    refine XS.iushr X0.here hx rfl (hb hby at_17) rfl ?_
    show SS p e below s₁ (mkF m 18 #[vi p0, vl q1, us, vi vL, vi vK, uu, uu, uu, uu, uu, uu, uu, uu, uu] [(.int ((p0.toUInt32 >>> ((5 : Int32) &&& 31).toUInt32).toInt32))]) _
    refine XS.bipush X0.here hx rfl (hb hby at_18) ?_
    show SS p e below s₁ (mkF m 20 #[vi p0, vl q1, us, vi vL, vi vK, uu, uu, uu, uu, uu, uu, uu, uu, uu] [(.int (7 : Int32)), (.int ((p0.toUInt32 >>> ((5 : Int32) &&& 31).toUInt32).toInt32))]) _
    refine XS.iand X0.here hx rfl (hb hby at_20) rfl ?_
    show SS p e below s₁ (mkF m 21 #[vi p0, vl q1, us, vi vL, vi vK, uu, uu, uu, uu, uu, uu, uu, uu, uu] [(.int (((p0.toUInt32 >>> ((5 : Int32) &&& 31).toUInt32).toInt32) &&& (7 : Int32)))]) _
    rw [uM]
    show SS p e below s₁ (mkF m 21 #[vi p0, vl q1, us, vi vL, vi vK, uu, uu, uu, uu, uu, uu, uu, uu, uu] [(.int vM)]) _
    refine XS.istore X0.here hx rfl (hb hby at_21) rfl (l' := #[vi p0, vl q1, us, vi vL, vi vK, vi vM, uu, uu, uu, uu, uu, uu, uu, uu]) rfl ?_
    show SS p e below s₁ (mkF m 23 #[vi p0, vl q1, us, vi vL, vi vK, vi vM, uu, uu, uu, uu, uu, uu, uu, uu] []) _
    refine XS.iload X0.here hx rfl (hb hby at_23) rfl ?_
    show SS p e below s₁ (mkF m 25 #[vi p0, vl q1, us, vi vL, vi vK, vi vM, uu, uu, uu, uu, uu, uu, uu, uu] [(.int vK)]) _
    refine XS.iconst X0.here hx rfl (hb hby at_25) ?_
    show SS p e below s₁ (mkF m 26 #[vi p0, vl q1, us, vi vL, vi vK, vi vM, uu, uu, uu, uu, uu, uu, uu, uu] [(.int (0 : Int32)), (.int vK)]) _
    refine XS.iload X0.here hx rfl (hb hby at_26) rfl ?_
    show SS p e below s₁ (mkF m 28 #[vi p0, vl q1, us, vi vL, vi vK, vi vM, uu, uu, uu, uu, uu, uu, uu, uu] [(.int vM), (.int (0 : Int32)), (.int vK)]) _
    refine XS.lloadN X0.here hx rfl (hb hby at_28) rfl ?_
    show SS p e below s₁ (mkF m 29 #[vi p0, vl q1, us, vi vL, vi vK, vi vM, uu, uu, uu, uu, uu, uu, uu, uu] [(.long q1), (.int vM), (.int (0 : Int32)), (.int vK)]) _
    refine st1.trans ?_
    show SS p e below T1 (mkF m 32 #[vi p0, vl q1, us, vi vL, vi vK, vi vM, uu, uu, uu, uu, uu, uu, uu, uu] [(.int cv_1)]) _
    refine XS.istore X1.here hx rfl (hb hby at_32) rfl (l' := #[vi p0, vl q1, us, vi vL, vi vK, vi vM, vi cv_1, uu, uu, uu, uu, uu, uu, uu]) rfl ?_
    show SS p e below T1 (mkF m 34 #[vi p0, vl q1, us, vi vL, vi vK, vi vM, vi cv_1, uu, uu, uu, uu, uu, uu, uu] []) _
    refine XS.iload X1.here hx rfl (hb hby at_34) rfl ?_
    show SS p e below T1 (mkF m 36 #[vi p0, vl q1, us, vi vL, vi vK, vi vM, vi cv_1, uu, uu, uu, uu, uu, uu, uu] [(.int vK)]) _
    refine XS.iconst X1.here hx rfl (hb hby at_36) ?_
    show SS p e below T1 (mkF m 37 #[vi p0, vl q1, us, vi vL, vi vK, vi vM, vi cv_1, uu, uu, uu, uu, uu, uu, uu] [(.int (1 : Int32)), (.int vK)]) _
    refine XS.iload X1.here hx rfl (hb hby at_37) rfl ?_
    show SS p e below T1 (mkF m 39 #[vi p0, vl q1, us, vi vL, vi vK, vi vM, vi cv_1, uu, uu, uu, uu, uu, uu, uu] [(.int vM), (.int (1 : Int32)), (.int vK)]) _
    refine XS.lloadN X1.here hx rfl (hb hby at_39) rfl ?_
    show SS p e below T1 (mkF m 40 #[vi p0, vl q1, us, vi vL, vi vK, vi vM, vi cv_1, uu, uu, uu, uu, uu, uu, uu] [(.long q1), (.int vM), (.int (1 : Int32)), (.int vK)]) _
    refine st3.trans ?_
    show SS p e below T3 (mkF m 43 #[vi p0, vl q1, us, vi vL, vi vK, vi vM, vi cv_1, uu, uu, uu, uu, uu, uu, uu] [(.int cv_3)]) _
    refine XS.istore X3.here hx rfl (hb hby at_43) rfl (l' := #[vi p0, vl q1, us, vi vL, vi vK, vi vM, vi cv_1, vi cv_3, uu, uu, uu, uu, uu, uu]) rfl ?_
    show SS p e below T3 (mkF m 45 #[vi p0, vl q1, us, vi vL, vi vK, vi vM, vi cv_1, vi cv_3, uu, uu, uu, uu, uu, uu] []) _
    refine XS.iload X3.here hx rfl (hb hby at_45) rfl ?_
    show SS p e below T3 (mkF m 47 #[vi p0, vl q1, us, vi vL, vi vK, vi vM, vi cv_1, vi cv_3, uu, uu, uu, uu, uu, uu] [(.int vK)]) _
    refine XS.iconst X3.here hx rfl (hb hby at_47) ?_
    show SS p e below T3 (mkF m 48 #[vi p0, vl q1, us, vi vL, vi vK, vi vM, vi cv_1, vi cv_3, uu, uu, uu, uu, uu, uu] [(.int (2 : Int32)), (.int vK)]) _
    refine XS.iload X3.here hx rfl (hb hby at_48) rfl ?_
    show SS p e below T3 (mkF m 50 #[vi p0, vl q1, us, vi vL, vi vK, vi vM, vi cv_1, vi cv_3, uu, uu, uu, uu, uu, uu] [(.int vM), (.int (2 : Int32)), (.int vK)]) _
    refine XS.lloadN X3.here hx rfl (hb hby at_50) rfl ?_
    show SS p e below T3 (mkF m 51 #[vi p0, vl q1, us, vi vL, vi vK, vi vM, vi cv_1, vi cv_3, uu, uu, uu, uu, uu, uu] [(.long q1), (.int vM), (.int (2 : Int32)), (.int vK)]) _
    refine st6.trans ?_
    show SS p e below T6 (mkF m 54 #[vi p0, vl q1, us, vi vL, vi vK, vi vM, vi cv_1, vi cv_3, uu, uu, uu, uu, uu, uu] [(.int cv_6)]) _
    refine XS.istore X6.here hx rfl (hb hby at_54) rfl (l' := #[vi p0, vl q1, us, vi vL, vi vK, vi vM, vi cv_1, vi cv_3, vi cv_6, uu, uu, uu, uu, uu]) rfl ?_
    show SS p e below T6 (mkF m 56 #[vi p0, vl q1, us, vi vL, vi vK, vi vM, vi cv_1, vi cv_3, vi cv_6, uu, uu, uu, uu, uu] []) _
    refine XS.iload X6.here hx rfl (hb hby at_56) rfl ?_
    show SS p e below T6 (mkF m 58 #[vi p0, vl q1, us, vi vL, vi vK, vi vM, vi cv_1, vi cv_3, vi cv_6, uu, uu, uu, uu, uu] [(.int vK)]) _
    refine XS.iconst X6.here hx rfl (hb hby at_58) ?_
    show SS p e below T6 (mkF m 59 #[vi p0, vl q1, us, vi vL, vi vK, vi vM, vi cv_1, vi cv_3, vi cv_6, uu, uu, uu, uu, uu] [(.int (3 : Int32)), (.int vK)]) _
    refine XS.iload X6.here hx rfl (hb hby at_59) rfl ?_
    show SS p e below T6 (mkF m 61 #[vi p0, vl q1, us, vi vL, vi vK, vi vM, vi cv_1, vi cv_3, vi cv_6, uu, uu, uu, uu, uu] [(.int vM), (.int (3 : Int32)), (.int vK)]) _
    refine XS.lloadN X6.here hx rfl (hb hby at_61) rfl ?_
    show SS p e below T6 (mkF m 62 #[vi p0, vl q1, us, vi vL, vi vK, vi vM, vi cv_1, vi cv_3, vi cv_6, uu, uu, uu, uu, uu] [(.long q1), (.int vM), (.int (3 : Int32)), (.int vK)]) _
    refine st9.trans ?_
    show SS p e below T9 (mkF m 65 #[vi p0, vl q1, us, vi vL, vi vK, vi vM, vi cv_1, vi cv_3, vi cv_6, uu, uu, uu, uu, uu] [(.int cv_9)]) _
    refine XS.istore X9.here hx rfl (hb hby at_65) rfl (l' := #[vi p0, vl q1, us, vi vL, vi vK, vi vM, vi cv_1, vi cv_3, vi cv_6, vi cv_9, uu, uu, uu, uu]) rfl ?_
    show SS p e below T9 (mkF m 67 #[vi p0, vl q1, us, vi vL, vi vK, vi vM, vi cv_1, vi cv_3, vi cv_6, vi cv_9, uu, uu, uu, uu] []) _
    refine XS.iload X9.here hx rfl (hb hby at_67) rfl ?_
    show SS p e below T9 (mkF m 69 #[vi p0, vl q1, us, vi vL, vi vK, vi vM, vi cv_1, vi cv_3, vi cv_6, vi cv_9, uu, uu, uu, uu] [(.int vK)]) _
    refine XS.iconst X9.here hx rfl (hb hby at_69) ?_
    show SS p e below T9 (mkF m 70 #[vi p0, vl q1, us, vi vL, vi vK, vi vM, vi cv_1, vi cv_3, vi cv_6, vi cv_9, uu, uu, uu, uu] [(.int (4 : Int32)), (.int vK)]) _
    refine XS.iload X9.here hx rfl (hb hby at_70) rfl ?_
    show SS p e below T9 (mkF m 72 #[vi p0, vl q1, us, vi vL, vi vK, vi vM, vi cv_1, vi cv_3, vi cv_6, vi cv_9, uu, uu, uu, uu] [(.int vM), (.int (4 : Int32)), (.int vK)]) _
    refine XS.lloadN X9.here hx rfl (hb hby at_72) rfl ?_
    show SS p e below T9 (mkF m 73 #[vi p0, vl q1, us, vi vL, vi vK, vi vM, vi cv_1, vi cv_3, vi cv_6, vi cv_9, uu, uu, uu, uu] [(.long q1), (.int vM), (.int (4 : Int32)), (.int vK)]) _
    refine st12.trans ?_
    show SS p e below T12 (mkF m 76 #[vi p0, vl q1, us, vi vL, vi vK, vi vM, vi cv_1, vi cv_3, vi cv_6, vi cv_9, uu, uu, uu, uu] [(.int cv_12)]) _
    refine XS.istore X12.here hx rfl (hb hby at_76) rfl (l' := #[vi p0, vl q1, us, vi vL, vi vK, vi vM, vi cv_1, vi cv_3, vi cv_6, vi cv_9, vi cv_12, uu, uu, uu]) rfl ?_
    show SS p e below T12 (mkF m 78 #[vi p0, vl q1, us, vi vL, vi vK, vi vM, vi cv_1, vi cv_3, vi cv_6, vi cv_9, vi cv_12, uu, uu, uu] []) _
    refine XS.iload X12.here hx rfl (hb hby at_78) rfl ?_
    show SS p e below T12 (mkF m 80 #[vi p0, vl q1, us, vi vL, vi vK, vi vM, vi cv_1, vi cv_3, vi cv_6, vi cv_9, vi cv_12, uu, uu, uu] [(.int vK)]) _
    refine XS.iconst X12.here hx rfl (hb hby at_80) ?_
    show SS p e below T12 (mkF m 81 #[vi p0, vl q1, us, vi vL, vi vK, vi vM, vi cv_1, vi cv_3, vi cv_6, vi cv_9, vi cv_12, uu, uu, uu] [(.int (5 : Int32)), (.int vK)]) _
    refine XS.iload X12.here hx rfl (hb hby at_81) rfl ?_
    show SS p e below T12 (mkF m 83 #[vi p0, vl q1, us, vi vL, vi vK, vi vM, vi cv_1, vi cv_3, vi cv_6, vi cv_9, vi cv_12, uu, uu, uu] [(.int vM), (.int (5 : Int32)), (.int vK)]) _
    refine XS.lloadN X12.here hx rfl (hb hby at_83) rfl ?_
    show SS p e below T12 (mkF m 84 #[vi p0, vl q1, us, vi vL, vi vK, vi vM, vi cv_1, vi cv_3, vi cv_6, vi cv_9, vi cv_12, uu, uu, uu] [(.long q1), (.int vM), (.int (5 : Int32)), (.int vK)]) _
    refine st15.trans ?_
    show SS p e below T15 (mkF m 87 #[vi p0, vl q1, us, vi vL, vi vK, vi vM, vi cv_1, vi cv_3, vi cv_6, vi cv_9, vi cv_12, uu, uu, uu] [(.int cv_15)]) _
    refine XS.istore X15.here hx rfl (hb hby at_87) rfl (l' := #[vi p0, vl q1, us, vi vL, vi vK, vi vM, vi cv_1, vi cv_3, vi cv_6, vi cv_9, vi cv_12, vi cv_15, uu, uu]) rfl ?_
    show SS p e below T15 (mkF m 89 #[vi p0, vl q1, us, vi vL, vi vK, vi vM, vi cv_1, vi cv_3, vi cv_6, vi cv_9, vi cv_12, vi cv_15, uu, uu] []) _
    refine XS.iloadN X15.here hx rfl (hb hby at_89) rfl ?_
    show SS p e below T15 (mkF m 90 #[vi p0, vl q1, us, vi vL, vi vK, vi vM, vi cv_1, vi cv_3, vi cv_6, vi cv_9, vi cv_12, vi cv_15, uu, uu] [(.int vL)]) _
    refine XS.iload X15.here hx rfl (hb hby at_90) rfl ?_
    show SS p e below T15 (mkF m 92 #[vi p0, vl q1, us, vi vL, vi vK, vi vM, vi cv_1, vi cv_3, vi cv_6, vi cv_9, vi cv_12, vi cv_15, uu, uu] [(.int cv_1), (.int vL)]) _
    refine XS.iload X15.here hx rfl (hb hby at_92) rfl ?_
    show SS p e below T15 (mkF m 94 #[vi p0, vl q1, us, vi vL, vi vK, vi vM, vi cv_1, vi cv_3, vi cv_6, vi cv_9, vi cv_12, vi cv_15, uu, uu] [(.int cv_3), (.int cv_1), (.int vL)]) _
    refine XS.iload X15.here hx rfl (hb hby at_94) rfl ?_
    show SS p e below T15 (mkF m 96 #[vi p0, vl q1, us, vi vL, vi vK, vi vM, vi cv_1, vi cv_3, vi cv_6, vi cv_9, vi cv_12, vi cv_15, uu, uu] [(.int cv_6), (.int cv_3), (.int cv_1), (.int vL)]) _
    refine XS.iload X15.here hx rfl (hb hby at_96) rfl ?_
    show SS p e below T15 (mkF m 98 #[vi p0, vl q1, us, vi vL, vi vK, vi vM, vi cv_1, vi cv_3, vi cv_6, vi cv_9, vi cv_12, vi cv_15, uu, uu] [(.int cv_9), (.int cv_6), (.int cv_3), (.int cv_1), (.int vL)]) _
    refine XS.iload X15.here hx rfl (hb hby at_98) rfl ?_
    show SS p e below T15 (mkF m 100 #[vi p0, vl q1, us, vi vL, vi vK, vi vM, vi cv_1, vi cv_3, vi cv_6, vi cv_9, vi cv_12, vi cv_15, uu, uu] [(.int cv_12), (.int cv_9), (.int cv_6), (.int cv_3), (.int cv_1), (.int vL)]) _
    refine XS.iload X15.here hx rfl (hb hby at_100) rfl ?_
    exact kt
  rcases u7 with rfl | rfl | rfl | rfl | rfl | rfl | rfl
  · have c20 := (c16.keep Kq15 all0)
    obtain ⟨_, _, ⟨T19, Lw19, kw19, nw19⟩, -, X19', hS19', hg19, ⟨Lc19, hQ19, lq19, yq19, zq19, CH19⟩, st19⟩ := callSS X15 hx (y := (⟨"com/example/wireform/wireform/json/JsonIsReservedPinLaw", "make", "(ICCCCCC)Ljava/lang/String;"⟩ : MethodName)) hown15 (mvT hZ15 (wd hw 54 rfl)) (mvT hZ15 (wd hw 55 rfl)) (mvT hZ15 (wd hw 2 rfl)) (mvT hZ15 (wd hw 56 rfl)) (by decide) (backOfSH (W := 0) (rmM0 l Z a0 hw [] cv_1 cv_3 cv_6 cv_9 cv_12 cv_15 zc fm T15.heap n0 Z15 c20 uS uF uP uR f1_0 f3_0 f6_0 f9_0 f12_0 f15_0) hZ15 (wd hw 56 rfl) (wd hw 2 rfl) (by decide) (by decide) (own_EW hw) hCe17) (g := (mkF m 102 #[vi p0, vl q1, us, vi (0 : Int32), vi vK, vi vM, vi cv_1, vi cv_3, vi cv_6, vi cv_9, vi cv_12, vi cv_15, uu, uu] [(.int cv_15), (.int cv_12), (.int cv_9), (.int cv_6), (.int cv_3), (.int cv_1), (.int (0 : Int32))])) rfl (by rw [hml]; rfl) (argsL := [(.int (0 : Int32)), (.int cv_1), (.int cv_3), (.int cv_6), (.int cv_9), (.int cv_12), (.int cv_15)]) (rest := []) (lenOf pd_8 rfl) rfl (by show 2 * 0 + _ ≤ _; exact Nat.le_of_eq rfl) (hb hby at_102) (fun _ _ => ⟨rfl, rfl, (by decide : 12 + 6 ≤ _), (by decide : 144 + 12 ≤ _)⟩)
    dsimp only [Pt.U, Pt.locs, Pt.cells, Pt.slots] at X19' hS19' hg19 lq19 yq19 zq19 st19 hQ19 CH19
    have X19' := own_reb X19' lq19 yq19 zq19
    obtain ⟨X19, hS19, hZ19, hown19⟩ := rebS hS15 (own_hk rfl hk15) X19' hS19' hg19 hZ15 hown15
    obtain ⟨nx_19, nt_19, nk_19, rfl, Nq19, Kq19, f19_0, f19_1, f19_2, f19_3⟩ := hQ19
    have N19 := Fr.app N15 Nq19
    have Re21 := Re17.trans CH19
    have hCe21 := Re21.1
    have K19 : Keep h0 T19.heap [] := K15.trans Kq19 all0
    have Z19 : n0 ≤ T19.heap.size := Nat.le_trans Z15 Kq19.1
    have hk19 : T19.heap.size ≤ T19.heap.size := Nat.le_refl _
    have c23 := (c20.keep Kq19 all0)
    obtain ⟨_, _, ⟨T22, Lw22, kw22, nw22⟩, -, X22', hS22', hg22, ⟨Lc22, hQ22, lq22, yq22, zq22, CH22⟩, st22⟩ := callSS X19 hx (y := (⟨"com/example/wireform/wireform/json/Json", "isReserved", "(Ljava/lang/String;)Z"⟩ : MethodName)) hown19 (mvT hZ19 (wd hw 70 rfl)) (mvT hZ19 (wd hw 71 rfl)) (mvT hZ19 (wd hw 72 rfl)) (mvT hZ19 (wd hw 73 rfl)) (by decide) (backOfSH (W := 0) (rmR l Z a0 hw [] nx_19 zc fm nt_19 nk_19 ([] : List Int32) T19.heap n0 Z19 c23 uS uF uP uR f19_0 f19_1 f19_2 f19_3 (fun c hc => nomatch hc) (Nat.le_of_ble_eq_true rfl)) hZ19 (wd hw 73 rfl) (wd hw 72 rfl) (by decide) (by decide) (own_EW hw) hCe21) (g := (mkF m 215 #[vi p0, vl q1, us, vi (0 : Int32), vi vK, vi vM, vi cv_1, vi cv_3, vi cv_6, vi cv_9, vi cv_12, vi cv_15, vr nx_19, vi (0 : Int32)] [(.ref nx_19)])) rfl (by rw [hml]; rfl) (argsL := [(.ref nx_19)]) (rest := []) (lenOf pd_9 rfl) rfl (by show 2 * 0 + _ ≤ _; exact Nat.le_of_eq rfl) (hb hby at_215) (fun _ _ => ⟨rfl, rfl, (by decide : 18 + 6 ≤ _), (by decide : 156 + 60 ≤ _)⟩)
    dsimp only [Pt.U, Pt.locs, Pt.cells, Pt.slots] at X22' hS22' hg22 lq22 yq22 zq22 st22 hQ22 CH22
    have X22' := own_reb X22' lq22 yq22 zq22
    obtain ⟨X22, hS22, hZ22, hown22⟩ := rebS hS19 (own_hk rfl hk19) X22' hS22' hg22 hZ19 hown19
    obtain ⟨rfl, Nq22, Kq22⟩ := hQ22
    have N22 := Fr.app N19 Nq22
    have Re24 := Re21.trans CH22
    have hCe24 := Re24.1
    have K22 : Keep h0 T22.heap [] := K19.trans Kq22 all0
    have Z22 : n0 ≤ T22.heap.size := Nat.le_trans Z19 Kq22.1
    have hk22 : T22.heap.size ≤ T22.heap.size := Nat.le_refl _
    obtain ⟨fs, hr, hrun, hended, en1, en2, en3, en4⟩ := X22.leaveW hS22 (own_hk rfl hk22) (v := some (.int (nar .boolean (1 : Int32)))) (fun h => by rw [Bd.returns] at h; cases h)
    refine ⟨_, _, pre0 _ ?_, hrun, hended, _, _, rfl, ?_, own_chr (T := T22) hh rfl (Re24.trans (CHv.at X22 hZ22 (own_EW hw) hCe24)), en1, en2, en3, en4.mono (by decide) (by decide)⟩
    · refine sg18 _ ?_
      show SS p e below T15 (mkF m 102 #[vi p0, vl q1, us, vi (0 : Int32), vi vK, vi vM, vi cv_1, vi cv_3, vi cv_6, vi cv_9, vi cv_12, vi cv_15, uu, uu] [(.int cv_15), (.int cv_12), (.int cv_9), (.int cv_6), (.int cv_3), (.int cv_1), (.int (0 : Int32))]) _
      refine st19.trans ?_
      show SS p e below T19 (mkF m 105 #[vi p0, vl q1, us, vi (0 : Int32), vi vK, vi vM, vi cv_1, vi cv_3, vi cv_6, vi cv_9, vi cv_12, vi cv_15, uu, uu] [(.ref nx_19)]) _
      refine XS.astore X19.here hx rfl (hb hby at_105) rfl rfl (l' := #[vi p0, vl q1, us, vi (0 : Int32), vi vK, vi vM, vi cv_1, vi cv_3, vi cv_6, vi cv_9, vi cv_12, vi cv_15, vr nx_19, uu]) rfl ?_
      show SS p e below T19 (mkF m 107 #[vi p0, vl q1, us, vi (0 : Int32), vi vK, vi vM, vi cv_1, vi cv_3, vi cv_6, vi cv_9, vi cv_12, vi cv_15, vr nx_19, uu] []) _
      refine XS.iloadN X19.here hx rfl (hb hby at_107) rfl ?_
      show SS p e below T19 (mkF m 108 #[vi p0, vl q1, us, vi (0 : Int32), vi vK, vi vM, vi cv_1, vi cv_3, vi cv_6, vi cv_9, vi cv_12, vi cv_15, vr nx_19, uu] [(.int (0 : Int32))]) _
      refine XS.iconst X19.here hx rfl (hb hby at_108) ?_
      show SS p e below T19 (mkF m 109 #[vi p0, vl q1, us, vi (0 : Int32), vi vK, vi vM, vi cv_1, vi cv_3, vi cv_6, vi cv_9, vi cv_12, vi cv_15, vr nx_19, uu] [(.int (5 : Int32)), (.int (0 : Int32))]) _
      refine XS.icmpYes X19.here hx rfl (pc0 := 109) (pc' := 147) rfl (hb hby at_109) rfl (feq (by decide : ¬ ((0 : Int32) = (5 : Int32)))).2 (by decide) (by decide) ?_
      show SS p e below T19 (mkF m 147 #[vi p0, vl q1, us, vi (0 : Int32), vi vK, vi vM, vi cv_1, vi cv_3, vi cv_6, vi cv_9, vi cv_12, vi cv_15, vr nx_19, uu] []) _
      refine XS.iloadN X19.here hx rfl (hb hby at_147) rfl ?_
      show SS p e below T19 (mkF m 148 #[vi p0, vl q1, us, vi (0 : Int32), vi vK, vi vM, vi cv_1, vi cv_3, vi cv_6, vi cv_9, vi cv_12, vi cv_15, vr nx_19, uu] [(.int (0 : Int32))]) _
      refine XS.iconst X19.here hx rfl (hb hby at_148) ?_
      show SS p e below T19 (mkF m 149 #[vi p0, vl q1, us, vi (0 : Int32), vi vK, vi vM, vi cv_1, vi cv_3, vi cv_6, vi cv_9, vi cv_12, vi cv_15, vr nx_19, uu] [(.int (3 : Int32)), (.int (0 : Int32))]) _
      refine XS.icmpYes X19.here hx rfl (pc0 := 149) (pc' := 173) rfl (hb hby at_149) rfl (feq (by decide : ¬ ((0 : Int32) = (3 : Int32)))).2 (by decide) (by decide) ?_
      show SS p e below T19 (mkF m 173 #[vi p0, vl q1, us, vi (0 : Int32), vi vK, vi vM, vi cv_1, vi cv_3, vi cv_6, vi cv_9, vi cv_12, vi cv_15, vr nx_19, uu] []) _
      refine XS.iloadN X19.here hx rfl (hb hby at_173) rfl ?_
      show SS p e below T19 (mkF m 174 #[vi p0, vl q1, us, vi (0 : Int32), vi vK, vi vM, vi cv_1, vi cv_3, vi cv_6, vi cv_9, vi cv_12, vi cv_15, vr nx_19, uu] [(.int (0 : Int32))]) _
      refine XS.iconst X19.here hx rfl (hb hby at_174) ?_
      show SS p e below T19 (mkF m 175 #[vi p0, vl q1, us, vi (0 : Int32), vi vK, vi vM, vi cv_1, vi cv_3, vi cv_6, vi cv_9, vi cv_12, vi cv_15, vr nx_19, uu] [(.int (4 : Int32)), (.int (0 : Int32))]) _
      refine XS.icmpYes X19.here hx rfl (pc0 := 175) (pc' := 210) rfl (hb hby at_175) rfl (feq (by decide : ¬ ((0 : Int32) = (4 : Int32)))).2 (by decide) (by decide) ?_
      show SS p e below T19 (mkF m 210 #[vi p0, vl q1, us, vi (0 : Int32), vi vK, vi vM, vi cv_1, vi cv_3, vi cv_6, vi cv_9, vi cv_12, vi cv_15, vr nx_19, uu] []) _
      refine XS.iconst X19.here hx rfl (hb hby at_210) ?_
      show SS p e below T19 (mkF m 211 #[vi p0, vl q1, us, vi (0 : Int32), vi vK, vi vM, vi cv_1, vi cv_3, vi cv_6, vi cv_9, vi cv_12, vi cv_15, vr nx_19, uu] [(.int (0 : Int32))]) _
      refine XS.istore X19.here hx rfl (hb hby at_211) rfl (l' := #[vi p0, vl q1, us, vi (0 : Int32), vi vK, vi vM, vi cv_1, vi cv_3, vi cv_6, vi cv_9, vi cv_12, vi cv_15, vr nx_19, vi (0 : Int32)]) rfl ?_
      show SS p e below T19 (mkF m 213 #[vi p0, vl q1, us, vi (0 : Int32), vi vK, vi vM, vi cv_1, vi cv_3, vi cv_6, vi cv_9, vi cv_12, vi cv_15, vr nx_19, vi (0 : Int32)] []) _
      refine XS.aload X19.here hx rfl (hb hby at_213) rfl rfl ?_
      show SS p e below T19 (mkF m 215 #[vi p0, vl q1, us, vi (0 : Int32), vi vK, vi vM, vi cv_1, vi cv_3, vi cv_6, vi cv_9, vi cv_12, vi cv_15, vr nx_19, vi (0 : Int32)] [(.ref nx_19)]) _
      refine st22.trans ?_
      show SS p e below T22 (mkF m 218 #[vi p0, vl q1, us, vi (0 : Int32), vi vK, vi vM, vi cv_1, vi cv_3, vi cv_6, vi cv_9, vi cv_12, vi cv_15, vr nx_19, vi (0 : Int32)] [(.int (own_res ([] : List Int32)))]) _
      refine XS.iload X22.here hx rfl (hb hby at_218) rfl ?_
      show SS p e below T22 (mkF m 220 #[vi p0, vl q1, us, vi (0 : Int32), vi vK, vi vM, vi cv_1, vi cv_3, vi cv_6, vi cv_9, vi cv_12, vi cv_15, vr nx_19, vi (0 : Int32)] [(.int (0 : Int32)), (.int (own_res ([] : List Int32)))]) _
      refine XS.icmpNo X22.here hx rfl (hb hby at_220) rfl (teq ((own_r0).trans (by simp) : (own_res ([] : List Int32)) = (0 : Int32))).2 ?_
      show SS p e below T22 (mkF m 223 #[vi p0, vl q1, us, vi (0 : Int32), vi vK, vi vM, vi cv_1, vi cv_3, vi cv_6, vi cv_9, vi cv_12, vi cv_15, vr nx_19, vi (0 : Int32)] []) _
      refine XS.iconst X22.here hx rfl (hb hby at_223) ?_
      show SS p e below T22 (mkF m 224 #[vi p0, vl q1, us, vi (0 : Int32), vi vK, vi vM, vi cv_1, vi cv_3, vi cv_6, vi cv_9, vi cv_12, vi cv_15, vr nx_19, vi (0 : Int32)] [(.int (1 : Int32))]) _
      refine XS.goto X22.here hx rfl (pc0 := 224) (pc' := 228) rfl (hb hby at_224) (by decide) (by decide) ?_
      show SS p e below T22 (mkF m 228 #[vi p0, vl q1, us, vi (0 : Int32), vi vK, vi vM, vi cv_1, vi cv_3, vi cv_6, vi cv_9, vi cv_12, vi cv_15, vr nx_19, vi (0 : Int32)] [(.int (1 : Int32))]) _
      exact retN X22 hx (t := .boolean) Bd.returns (by simp) (hb hby at_228) hr
    · show Q_rm0 Z p0 q1 zc fm (0 : Int32) vK vM h0 n0 _ T22.heap _
      exact ⟨rfl, N22⟩
  · have c26 := (c16.keep Kq15 all0)
    obtain ⟨_, _, ⟨T25, Lw25, kw25, nw25⟩, -, X25', hS25', hg25, ⟨Lc25, hQ25, lq25, yq25, zq25, CH25⟩, st25⟩ := callSS X15 hx (y := (⟨"com/example/wireform/wireform/json/JsonIsReservedPinLaw", "make", "(ICCCCCC)Ljava/lang/String;"⟩ : MethodName)) hown15 (mvT hZ15 (wd hw 54 rfl)) (mvT hZ15 (wd hw 55 rfl)) (mvT hZ15 (wd hw 2 rfl)) (mvT hZ15 (wd hw 56 rfl)) (by decide) (backOfSH (W := 0) (rmM1 l Z a0 hw [] cv_1 cv_3 cv_6 cv_9 cv_12 cv_15 zc fm T15.heap n0 Z15 c26 uS uF uP uR f1_0 f3_0 f6_0 f9_0 f12_0 f15_0) hZ15 (wd hw 56 rfl) (wd hw 2 rfl) (by decide) (by decide) (own_EW hw) hCe17) (g := (mkF m 102 #[vi p0, vl q1, us, vi (1 : Int32), vi vK, vi vM, vi cv_1, vi cv_3, vi cv_6, vi cv_9, vi cv_12, vi cv_15, uu, uu] [(.int cv_15), (.int cv_12), (.int cv_9), (.int cv_6), (.int cv_3), (.int cv_1), (.int (1 : Int32))])) rfl (by rw [hml]; rfl) (argsL := [(.int (1 : Int32)), (.int cv_1), (.int cv_3), (.int cv_6), (.int cv_9), (.int cv_12), (.int cv_15)]) (rest := []) (lenOf pd_8 rfl) rfl (by show 2 * 0 + _ ≤ _; exact Nat.le_of_eq rfl) (hb hby at_102) (fun _ _ => ⟨rfl, rfl, (by decide : 12 + 3 ≤ _), (by decide : 144 + 6 ≤ _)⟩)
    dsimp only [Pt.U, Pt.locs, Pt.cells, Pt.slots] at X25' hS25' hg25 lq25 yq25 zq25 st25 hQ25 CH25
    have X25' := own_reb X25' lq25 yq25 zq25
    obtain ⟨X25, hS25, hZ25, hown25⟩ := rebS hS15 (own_hk rfl hk15) X25' hS25' hg25 hZ15 hown15
    obtain ⟨nx_25, nt_25, nk_25, rfl, Nq25, Kq25, f25_0, f25_1, f25_2, f25_3⟩ := hQ25
    have N25 := Fr.app N15 Nq25
    have Re27 := Re17.trans CH25
    have hCe27 := Re27.1
    have K25 : Keep h0 T25.heap [] := K15.trans Kq25 all0
    have Z25 : n0 ≤ T25.heap.size := Nat.le_trans Z15 Kq25.1
    have hk25 : T25.heap.size ≤ T25.heap.size := Nat.le_refl _
    have c29 := (c26.keep Kq25 all0)
    obtain ⟨_, _, ⟨T28, Lw28, kw28, nw28⟩, -, X28', hS28', hg28, ⟨Lc28, hQ28, lq28, yq28, zq28, CH28⟩, st28⟩ := callSS X25 hx (y := (⟨"com/example/wireform/wireform/json/Json", "isReserved", "(Ljava/lang/String;)Z"⟩ : MethodName)) hown25 (mvT hZ25 (wd hw 70 rfl)) (mvT hZ25 (wd hw 71 rfl)) (mvT hZ25 (wd hw 72 rfl)) (mvT hZ25 (wd hw 73 rfl)) (by decide) (backOfSH (W := 0) (rmR l Z a0 hw [] nx_25 zc fm nt_25 nk_25 ([cv_1] : List Int32) T25.heap n0 Z25 c29 uS uF uP uR f25_0 f25_1 f25_2 f25_3 (own_all1 f1_0) (Nat.le_of_ble_eq_true rfl)) hZ25 (wd hw 73 rfl) (wd hw 72 rfl) (by decide) (by decide) (own_EW hw) hCe27) (g := (mkF m 215 #[vi p0, vl q1, us, vi (1 : Int32), vi vK, vi vM, vi cv_1, vi cv_3, vi cv_6, vi cv_9, vi cv_12, vi cv_15, vr nx_25, vi (0 : Int32)] [(.ref nx_25)])) rfl (by rw [hml]; rfl) (argsL := [(.ref nx_25)]) (rest := []) (lenOf pd_9 rfl) rfl (by show 2 * 0 + _ ≤ _; exact Nat.le_of_eq rfl) (hb hby at_215) (fun _ _ => ⟨rfl, rfl, (by decide : 15 + 6 ≤ _), (by decide : 150 + 60 ≤ _)⟩)
    dsimp only [Pt.U, Pt.locs, Pt.cells, Pt.slots] at X28' hS28' hg28 lq28 yq28 zq28 st28 hQ28 CH28
    have X28' := own_reb X28' lq28 yq28 zq28
    obtain ⟨X28, hS28, hZ28, hown28⟩ := rebS hS25 (own_hk rfl hk25) X28' hS28' hg28 hZ25 hown25
    obtain ⟨rfl, Nq28, Kq28⟩ := hQ28
    have N28 := Fr.app N25 Nq28
    have Re30 := Re27.trans CH28
    have hCe30 := Re30.1
    have K28 : Keep h0 T28.heap [] := K25.trans Kq28 all0
    have Z28 : n0 ≤ T28.heap.size := Nat.le_trans Z25 Kq28.1
    have hk28 : T28.heap.size ≤ T28.heap.size := Nat.le_refl _
    obtain ⟨fs, hr, hrun, hended, en1, en2, en3, en4⟩ := X28.leaveW hS28 (own_hk rfl hk28) (v := some (.int (nar .boolean (1 : Int32)))) (fun h => by rw [Bd.returns] at h; cases h)
    refine ⟨_, _, pre0 _ ?_, hrun, hended, _, _, rfl, ?_, own_chr (T := T28) hh rfl (Re30.trans (CHv.at X28 hZ28 (own_EW hw) hCe30)), en1, en2, en3, en4.mono (by decide) (by decide)⟩
    · refine sg18 _ ?_
      show SS p e below T15 (mkF m 102 #[vi p0, vl q1, us, vi (1 : Int32), vi vK, vi vM, vi cv_1, vi cv_3, vi cv_6, vi cv_9, vi cv_12, vi cv_15, uu, uu] [(.int cv_15), (.int cv_12), (.int cv_9), (.int cv_6), (.int cv_3), (.int cv_1), (.int (1 : Int32))]) _
      refine st25.trans ?_
      show SS p e below T25 (mkF m 105 #[vi p0, vl q1, us, vi (1 : Int32), vi vK, vi vM, vi cv_1, vi cv_3, vi cv_6, vi cv_9, vi cv_12, vi cv_15, uu, uu] [(.ref nx_25)]) _
      refine XS.astore X25.here hx rfl (hb hby at_105) rfl rfl (l' := #[vi p0, vl q1, us, vi (1 : Int32), vi vK, vi vM, vi cv_1, vi cv_3, vi cv_6, vi cv_9, vi cv_12, vi cv_15, vr nx_25, uu]) rfl ?_
      show SS p e below T25 (mkF m 107 #[vi p0, vl q1, us, vi (1 : Int32), vi vK, vi vM, vi cv_1, vi cv_3, vi cv_6, vi cv_9, vi cv_12, vi cv_15, vr nx_25, uu] []) _
      refine XS.iloadN X25.here hx rfl (hb hby at_107) rfl ?_
      show SS p e below T25 (mkF m 108 #[vi p0, vl q1, us, vi (1 : Int32), vi vK, vi vM, vi cv_1, vi cv_3, vi cv_6, vi cv_9, vi cv_12, vi cv_15, vr nx_25, uu] [(.int (1 : Int32))]) _
      refine XS.iconst X25.here hx rfl (hb hby at_108) ?_
      show SS p e below T25 (mkF m 109 #[vi p0, vl q1, us, vi (1 : Int32), vi vK, vi vM, vi cv_1, vi cv_3, vi cv_6, vi cv_9, vi cv_12, vi cv_15, vr nx_25, uu] [(.int (5 : Int32)), (.int (1 : Int32))]) _
      refine XS.icmpYes X25.here hx rfl (pc0 := 109) (pc' := 147) rfl (hb hby at_109) rfl (feq (by decide : ¬ ((1 : Int32) = (5 : Int32)))).2 (by decide) (by decide) ?_
      show SS p e below T25 (mkF m 147 #[vi p0, vl q1, us, vi (1 : Int32), vi vK, vi vM, vi cv_1, vi cv_3, vi cv_6, vi cv_9, vi cv_12, vi cv_15, vr nx_25, uu] []) _
      refine XS.iloadN X25.here hx rfl (hb hby at_147) rfl ?_
      show SS p e below T25 (mkF m 148 #[vi p0, vl q1, us, vi (1 : Int32), vi vK, vi vM, vi cv_1, vi cv_3, vi cv_6, vi cv_9, vi cv_12, vi cv_15, vr nx_25, uu] [(.int (1 : Int32))]) _
      refine XS.iconst X25.here hx rfl (hb hby at_148) ?_
      show SS p e below T25 (mkF m 149 #[vi p0, vl q1, us, vi (1 : Int32), vi vK, vi vM, vi cv_1, vi cv_3, vi cv_6, vi cv_9, vi cv_12, vi cv_15, vr nx_25, uu] [(.int (3 : Int32)), (.int (1 : Int32))]) _
      refine XS.icmpYes X25.here hx rfl (pc0 := 149) (pc' := 173) rfl (hb hby at_149) rfl (feq (by decide : ¬ ((1 : Int32) = (3 : Int32)))).2 (by decide) (by decide) ?_
      show SS p e below T25 (mkF m 173 #[vi p0, vl q1, us, vi (1 : Int32), vi vK, vi vM, vi cv_1, vi cv_3, vi cv_6, vi cv_9, vi cv_12, vi cv_15, vr nx_25, uu] []) _
      refine XS.iloadN X25.here hx rfl (hb hby at_173) rfl ?_
      show SS p e below T25 (mkF m 174 #[vi p0, vl q1, us, vi (1 : Int32), vi vK, vi vM, vi cv_1, vi cv_3, vi cv_6, vi cv_9, vi cv_12, vi cv_15, vr nx_25, uu] [(.int (1 : Int32))]) _
      refine XS.iconst X25.here hx rfl (hb hby at_174) ?_
      show SS p e below T25 (mkF m 175 #[vi p0, vl q1, us, vi (1 : Int32), vi vK, vi vM, vi cv_1, vi cv_3, vi cv_6, vi cv_9, vi cv_12, vi cv_15, vr nx_25, uu] [(.int (4 : Int32)), (.int (1 : Int32))]) _
      refine XS.icmpYes X25.here hx rfl (pc0 := 175) (pc' := 210) rfl (hb hby at_175) rfl (feq (by decide : ¬ ((1 : Int32) = (4 : Int32)))).2 (by decide) (by decide) ?_
      show SS p e below T25 (mkF m 210 #[vi p0, vl q1, us, vi (1 : Int32), vi vK, vi vM, vi cv_1, vi cv_3, vi cv_6, vi cv_9, vi cv_12, vi cv_15, vr nx_25, uu] []) _
      refine XS.iconst X25.here hx rfl (hb hby at_210) ?_
      show SS p e below T25 (mkF m 211 #[vi p0, vl q1, us, vi (1 : Int32), vi vK, vi vM, vi cv_1, vi cv_3, vi cv_6, vi cv_9, vi cv_12, vi cv_15, vr nx_25, uu] [(.int (0 : Int32))]) _
      refine XS.istore X25.here hx rfl (hb hby at_211) rfl (l' := #[vi p0, vl q1, us, vi (1 : Int32), vi vK, vi vM, vi cv_1, vi cv_3, vi cv_6, vi cv_9, vi cv_12, vi cv_15, vr nx_25, vi (0 : Int32)]) rfl ?_
      show SS p e below T25 (mkF m 213 #[vi p0, vl q1, us, vi (1 : Int32), vi vK, vi vM, vi cv_1, vi cv_3, vi cv_6, vi cv_9, vi cv_12, vi cv_15, vr nx_25, vi (0 : Int32)] []) _
      refine XS.aload X25.here hx rfl (hb hby at_213) rfl rfl ?_
      show SS p e below T25 (mkF m 215 #[vi p0, vl q1, us, vi (1 : Int32), vi vK, vi vM, vi cv_1, vi cv_3, vi cv_6, vi cv_9, vi cv_12, vi cv_15, vr nx_25, vi (0 : Int32)] [(.ref nx_25)]) _
      refine st28.trans ?_
      show SS p e below T28 (mkF m 218 #[vi p0, vl q1, us, vi (1 : Int32), vi vK, vi vM, vi cv_1, vi cv_3, vi cv_6, vi cv_9, vi cv_12, vi cv_15, vr nx_25, vi (0 : Int32)] [(.int (own_res ([cv_1] : List Int32)))]) _
      refine XS.iload X28.here hx rfl (hb hby at_218) rfl ?_
      show SS p e below T28 (mkF m 220 #[vi p0, vl q1, us, vi (1 : Int32), vi vK, vi vM, vi cv_1, vi cv_3, vi cv_6, vi cv_9, vi cv_12, vi cv_15, vr nx_25, vi (0 : Int32)] [(.int (0 : Int32)), (.int (own_res ([cv_1] : List Int32)))]) _
      refine XS.icmpNo X28.here hx rfl (hb hby at_220) rfl (teq ((own_r1 cv_1).trans (by simp) : (own_res ([cv_1] : List Int32)) = (0 : Int32))).2 ?_
      show SS p e below T28 (mkF m 223 #[vi p0, vl q1, us, vi (1 : Int32), vi vK, vi vM, vi cv_1, vi cv_3, vi cv_6, vi cv_9, vi cv_12, vi cv_15, vr nx_25, vi (0 : Int32)] []) _
      refine XS.iconst X28.here hx rfl (hb hby at_223) ?_
      show SS p e below T28 (mkF m 224 #[vi p0, vl q1, us, vi (1 : Int32), vi vK, vi vM, vi cv_1, vi cv_3, vi cv_6, vi cv_9, vi cv_12, vi cv_15, vr nx_25, vi (0 : Int32)] [(.int (1 : Int32))]) _
      refine XS.goto X28.here hx rfl (pc0 := 224) (pc' := 228) rfl (hb hby at_224) (by decide) (by decide) ?_
      show SS p e below T28 (mkF m 228 #[vi p0, vl q1, us, vi (1 : Int32), vi vK, vi vM, vi cv_1, vi cv_3, vi cv_6, vi cv_9, vi cv_12, vi cv_15, vr nx_25, vi (0 : Int32)] [(.int (1 : Int32))]) _
      exact retN X28 hx (t := .boolean) Bd.returns (by simp) (hb hby at_228) hr
    · show Q_rm0 Z p0 q1 zc fm (1 : Int32) vK vM h0 n0 _ T28.heap _
      exact ⟨rfl, N28⟩
  · have c32 := (c16.keep Kq15 all0)
    obtain ⟨_, _, ⟨T31, Lw31, kw31, nw31⟩, -, X31', hS31', hg31, ⟨Lc31, hQ31, lq31, yq31, zq31, CH31⟩, st31⟩ := callSS X15 hx (y := (⟨"com/example/wireform/wireform/json/JsonIsReservedPinLaw", "make", "(ICCCCCC)Ljava/lang/String;"⟩ : MethodName)) hown15 (mvT hZ15 (wd hw 54 rfl)) (mvT hZ15 (wd hw 55 rfl)) (mvT hZ15 (wd hw 2 rfl)) (mvT hZ15 (wd hw 56 rfl)) (by decide) (backOfSH (W := 0) (rmM2 l Z a0 hw [] cv_1 cv_3 cv_6 cv_9 cv_12 cv_15 zc fm T15.heap n0 Z15 c32 uS uF uP uR f1_0 f3_0 f6_0 f9_0 f12_0 f15_0) hZ15 (wd hw 56 rfl) (wd hw 2 rfl) (by decide) (by decide) (own_EW hw) hCe17) (g := (mkF m 102 #[vi p0, vl q1, us, vi (2 : Int32), vi vK, vi vM, vi cv_1, vi cv_3, vi cv_6, vi cv_9, vi cv_12, vi cv_15, uu, uu] [(.int cv_15), (.int cv_12), (.int cv_9), (.int cv_6), (.int cv_3), (.int cv_1), (.int (2 : Int32))])) rfl (by rw [hml]; rfl) (argsL := [(.int (2 : Int32)), (.int cv_1), (.int cv_3), (.int cv_6), (.int cv_9), (.int cv_12), (.int cv_15)]) (rest := []) (lenOf pd_8 rfl) rfl (by show 2 * 0 + _ ≤ _; exact Nat.le_of_eq rfl) (hb hby at_102) (fun _ _ => ⟨rfl, rfl, (by decide : 12 + 3 ≤ _), (by decide : 144 + 8 ≤ _)⟩)
    dsimp only [Pt.U, Pt.locs, Pt.cells, Pt.slots] at X31' hS31' hg31 lq31 yq31 zq31 st31 hQ31 CH31
    have X31' := own_reb X31' lq31 yq31 zq31
    obtain ⟨X31, hS31, hZ31, hown31⟩ := rebS hS15 (own_hk rfl hk15) X31' hS31' hg31 hZ15 hown15
    obtain ⟨nx_31, nt_31, nk_31, rfl, Nq31, Kq31, f31_0, f31_1, f31_2, f31_3⟩ := hQ31
    have N31 := Fr.app N15 Nq31
    have Re33 := Re17.trans CH31
    have hCe33 := Re33.1
    have K31 : Keep h0 T31.heap [] := K15.trans Kq31 all0
    have Z31 : n0 ≤ T31.heap.size := Nat.le_trans Z15 Kq31.1
    have hk31 : T31.heap.size ≤ T31.heap.size := Nat.le_refl _
    have c35 := (c32.keep Kq31 all0)
    obtain ⟨_, _, ⟨T34, Lw34, kw34, nw34⟩, -, X34', hS34', hg34, ⟨Lc34, hQ34, lq34, yq34, zq34, CH34⟩, st34⟩ := callSS X31 hx (y := (⟨"com/example/wireform/wireform/json/Json", "isReserved", "(Ljava/lang/String;)Z"⟩ : MethodName)) hown31 (mvT hZ31 (wd hw 70 rfl)) (mvT hZ31 (wd hw 71 rfl)) (mvT hZ31 (wd hw 72 rfl)) (mvT hZ31 (wd hw 73 rfl)) (by decide) (backOfSH (W := 0) (rmR l Z a0 hw [] nx_31 zc fm nt_31 nk_31 ([cv_1, cv_3] : List Int32) T31.heap n0 Z31 c35 uS uF uP uR f31_0 f31_1 f31_2 f31_3 (own_all2 f1_0 f3_0) (Nat.le_of_ble_eq_true rfl)) hZ31 (wd hw 73 rfl) (wd hw 72 rfl) (by decide) (by decide) (own_EW hw) hCe33) (g := (mkF m 215 #[vi p0, vl q1, us, vi (2 : Int32), vi vK, vi vM, vi cv_1, vi cv_3, vi cv_6, vi cv_9, vi cv_12, vi cv_15, vr nx_31, vi (0 : Int32)] [(.ref nx_31)])) rfl (by rw [hml]; rfl) (argsL := [(.ref nx_31)]) (rest := []) (lenOf pd_9 rfl) rfl (by show 2 * 0 + _ ≤ _; exact Nat.le_of_eq rfl) (hb hby at_215) (fun _ _ => ⟨rfl, rfl, (by decide : 15 + 6 ≤ _), (by decide : 152 + 60 ≤ _)⟩)
    dsimp only [Pt.U, Pt.locs, Pt.cells, Pt.slots] at X34' hS34' hg34 lq34 yq34 zq34 st34 hQ34 CH34
    have X34' := own_reb X34' lq34 yq34 zq34
    obtain ⟨X34, hS34, hZ34, hown34⟩ := rebS hS31 (own_hk rfl hk31) X34' hS34' hg34 hZ31 hown31
    obtain ⟨rfl, Nq34, Kq34⟩ := hQ34
    have N34 := Fr.app N31 Nq34
    have Re36 := Re33.trans CH34
    have hCe36 := Re36.1
    have K34 : Keep h0 T34.heap [] := K31.trans Kq34 all0
    have Z34 : n0 ≤ T34.heap.size := Nat.le_trans Z31 Kq34.1
    have hk34 : T34.heap.size ≤ T34.heap.size := Nat.le_refl _
    obtain ⟨fs, hr, hrun, hended, en1, en2, en3, en4⟩ := X34.leaveW hS34 (own_hk rfl hk34) (v := some (.int (nar .boolean (1 : Int32)))) (fun h => by rw [Bd.returns] at h; cases h)
    refine ⟨_, _, pre0 _ ?_, hrun, hended, _, _, rfl, ?_, own_chr (T := T34) hh rfl (Re36.trans (CHv.at X34 hZ34 (own_EW hw) hCe36)), en1, en2, en3, en4.mono (by decide) (by decide)⟩
    · refine sg18 _ ?_
      show SS p e below T15 (mkF m 102 #[vi p0, vl q1, us, vi (2 : Int32), vi vK, vi vM, vi cv_1, vi cv_3, vi cv_6, vi cv_9, vi cv_12, vi cv_15, uu, uu] [(.int cv_15), (.int cv_12), (.int cv_9), (.int cv_6), (.int cv_3), (.int cv_1), (.int (2 : Int32))]) _
      refine st31.trans ?_
      show SS p e below T31 (mkF m 105 #[vi p0, vl q1, us, vi (2 : Int32), vi vK, vi vM, vi cv_1, vi cv_3, vi cv_6, vi cv_9, vi cv_12, vi cv_15, uu, uu] [(.ref nx_31)]) _
      refine XS.astore X31.here hx rfl (hb hby at_105) rfl rfl (l' := #[vi p0, vl q1, us, vi (2 : Int32), vi vK, vi vM, vi cv_1, vi cv_3, vi cv_6, vi cv_9, vi cv_12, vi cv_15, vr nx_31, uu]) rfl ?_
      show SS p e below T31 (mkF m 107 #[vi p0, vl q1, us, vi (2 : Int32), vi vK, vi vM, vi cv_1, vi cv_3, vi cv_6, vi cv_9, vi cv_12, vi cv_15, vr nx_31, uu] []) _
      refine XS.iloadN X31.here hx rfl (hb hby at_107) rfl ?_
      show SS p e below T31 (mkF m 108 #[vi p0, vl q1, us, vi (2 : Int32), vi vK, vi vM, vi cv_1, vi cv_3, vi cv_6, vi cv_9, vi cv_12, vi cv_15, vr nx_31, uu] [(.int (2 : Int32))]) _
      refine XS.iconst X31.here hx rfl (hb hby at_108) ?_
      show SS p e below T31 (mkF m 109 #[vi p0, vl q1, us, vi (2 : Int32), vi vK, vi vM, vi cv_1, vi cv_3, vi cv_6, vi cv_9, vi cv_12, vi cv_15, vr nx_31, uu] [(.int (5 : Int32)), (.int (2 : Int32))]) _
      refine XS.icmpYes X31.here hx rfl (pc0 := 109) (pc' := 147) rfl (hb hby at_109) rfl (feq (by decide : ¬ ((2 : Int32) = (5 : Int32)))).2 (by decide) (by decide) ?_
      show SS p e below T31 (mkF m 147 #[vi p0, vl q1, us, vi (2 : Int32), vi vK, vi vM, vi cv_1, vi cv_3, vi cv_6, vi cv_9, vi cv_12, vi cv_15, vr nx_31, uu] []) _
      refine XS.iloadN X31.here hx rfl (hb hby at_147) rfl ?_
      show SS p e below T31 (mkF m 148 #[vi p0, vl q1, us, vi (2 : Int32), vi vK, vi vM, vi cv_1, vi cv_3, vi cv_6, vi cv_9, vi cv_12, vi cv_15, vr nx_31, uu] [(.int (2 : Int32))]) _
      refine XS.iconst X31.here hx rfl (hb hby at_148) ?_
      show SS p e below T31 (mkF m 149 #[vi p0, vl q1, us, vi (2 : Int32), vi vK, vi vM, vi cv_1, vi cv_3, vi cv_6, vi cv_9, vi cv_12, vi cv_15, vr nx_31, uu] [(.int (3 : Int32)), (.int (2 : Int32))]) _
      refine XS.icmpYes X31.here hx rfl (pc0 := 149) (pc' := 173) rfl (hb hby at_149) rfl (feq (by decide : ¬ ((2 : Int32) = (3 : Int32)))).2 (by decide) (by decide) ?_
      show SS p e below T31 (mkF m 173 #[vi p0, vl q1, us, vi (2 : Int32), vi vK, vi vM, vi cv_1, vi cv_3, vi cv_6, vi cv_9, vi cv_12, vi cv_15, vr nx_31, uu] []) _
      refine XS.iloadN X31.here hx rfl (hb hby at_173) rfl ?_
      show SS p e below T31 (mkF m 174 #[vi p0, vl q1, us, vi (2 : Int32), vi vK, vi vM, vi cv_1, vi cv_3, vi cv_6, vi cv_9, vi cv_12, vi cv_15, vr nx_31, uu] [(.int (2 : Int32))]) _
      refine XS.iconst X31.here hx rfl (hb hby at_174) ?_
      show SS p e below T31 (mkF m 175 #[vi p0, vl q1, us, vi (2 : Int32), vi vK, vi vM, vi cv_1, vi cv_3, vi cv_6, vi cv_9, vi cv_12, vi cv_15, vr nx_31, uu] [(.int (4 : Int32)), (.int (2 : Int32))]) _
      refine XS.icmpYes X31.here hx rfl (pc0 := 175) (pc' := 210) rfl (hb hby at_175) rfl (feq (by decide : ¬ ((2 : Int32) = (4 : Int32)))).2 (by decide) (by decide) ?_
      show SS p e below T31 (mkF m 210 #[vi p0, vl q1, us, vi (2 : Int32), vi vK, vi vM, vi cv_1, vi cv_3, vi cv_6, vi cv_9, vi cv_12, vi cv_15, vr nx_31, uu] []) _
      refine XS.iconst X31.here hx rfl (hb hby at_210) ?_
      show SS p e below T31 (mkF m 211 #[vi p0, vl q1, us, vi (2 : Int32), vi vK, vi vM, vi cv_1, vi cv_3, vi cv_6, vi cv_9, vi cv_12, vi cv_15, vr nx_31, uu] [(.int (0 : Int32))]) _
      refine XS.istore X31.here hx rfl (hb hby at_211) rfl (l' := #[vi p0, vl q1, us, vi (2 : Int32), vi vK, vi vM, vi cv_1, vi cv_3, vi cv_6, vi cv_9, vi cv_12, vi cv_15, vr nx_31, vi (0 : Int32)]) rfl ?_
      show SS p e below T31 (mkF m 213 #[vi p0, vl q1, us, vi (2 : Int32), vi vK, vi vM, vi cv_1, vi cv_3, vi cv_6, vi cv_9, vi cv_12, vi cv_15, vr nx_31, vi (0 : Int32)] []) _
      refine XS.aload X31.here hx rfl (hb hby at_213) rfl rfl ?_
      show SS p e below T31 (mkF m 215 #[vi p0, vl q1, us, vi (2 : Int32), vi vK, vi vM, vi cv_1, vi cv_3, vi cv_6, vi cv_9, vi cv_12, vi cv_15, vr nx_31, vi (0 : Int32)] [(.ref nx_31)]) _
      refine st34.trans ?_
      show SS p e below T34 (mkF m 218 #[vi p0, vl q1, us, vi (2 : Int32), vi vK, vi vM, vi cv_1, vi cv_3, vi cv_6, vi cv_9, vi cv_12, vi cv_15, vr nx_31, vi (0 : Int32)] [(.int (own_res ([cv_1, cv_3] : List Int32)))]) _
      refine XS.iload X34.here hx rfl (hb hby at_218) rfl ?_
      show SS p e below T34 (mkF m 220 #[vi p0, vl q1, us, vi (2 : Int32), vi vK, vi vM, vi cv_1, vi cv_3, vi cv_6, vi cv_9, vi cv_12, vi cv_15, vr nx_31, vi (0 : Int32)] [(.int (0 : Int32)), (.int (own_res ([cv_1, cv_3] : List Int32)))]) _
      refine XS.icmpNo X34.here hx rfl (hb hby at_220) rfl (teq ((own_r2 cv_1 cv_3).trans (by simp) : (own_res ([cv_1, cv_3] : List Int32)) = (0 : Int32))).2 ?_
      show SS p e below T34 (mkF m 223 #[vi p0, vl q1, us, vi (2 : Int32), vi vK, vi vM, vi cv_1, vi cv_3, vi cv_6, vi cv_9, vi cv_12, vi cv_15, vr nx_31, vi (0 : Int32)] []) _
      refine XS.iconst X34.here hx rfl (hb hby at_223) ?_
      show SS p e below T34 (mkF m 224 #[vi p0, vl q1, us, vi (2 : Int32), vi vK, vi vM, vi cv_1, vi cv_3, vi cv_6, vi cv_9, vi cv_12, vi cv_15, vr nx_31, vi (0 : Int32)] [(.int (1 : Int32))]) _
      refine XS.goto X34.here hx rfl (pc0 := 224) (pc' := 228) rfl (hb hby at_224) (by decide) (by decide) ?_
      show SS p e below T34 (mkF m 228 #[vi p0, vl q1, us, vi (2 : Int32), vi vK, vi vM, vi cv_1, vi cv_3, vi cv_6, vi cv_9, vi cv_12, vi cv_15, vr nx_31, vi (0 : Int32)] [(.int (1 : Int32))]) _
      exact retN X34 hx (t := .boolean) Bd.returns (by simp) (hb hby at_228) hr
    · show Q_rm0 Z p0 q1 zc fm (2 : Int32) vK vM h0 n0 _ T34.heap _
      exact ⟨rfl, N34⟩
  · have c38 := (c16.keep Kq15 all0)
    obtain ⟨_, _, ⟨T37, Lw37, kw37, nw37⟩, -, X37', hS37', hg37, ⟨Lc37, hQ37, lq37, yq37, zq37, CH37⟩, st37⟩ := callSS X15 hx (y := (⟨"com/example/wireform/wireform/json/JsonIsReservedPinLaw", "make", "(ICCCCCC)Ljava/lang/String;"⟩ : MethodName)) hown15 (mvT hZ15 (wd hw 54 rfl)) (mvT hZ15 (wd hw 55 rfl)) (mvT hZ15 (wd hw 2 rfl)) (mvT hZ15 (wd hw 56 rfl)) (by decide) (backOfSH (W := 0) (rmM3 l Z a0 hw [] cv_1 cv_3 cv_6 cv_9 cv_12 cv_15 zc fm T15.heap n0 Z15 c38 uS uF uP uR f1_0 f3_0 f6_0 f9_0 f12_0 f15_0) hZ15 (wd hw 56 rfl) (wd hw 2 rfl) (by decide) (by decide) (own_EW hw) hCe17) (g := (mkF m 102 #[vi p0, vl q1, us, vi (3 : Int32), vi vK, vi vM, vi cv_1, vi cv_3, vi cv_6, vi cv_9, vi cv_12, vi cv_15, uu, uu] [(.int cv_15), (.int cv_12), (.int cv_9), (.int cv_6), (.int cv_3), (.int cv_1), (.int (3 : Int32))])) rfl (by rw [hml]; rfl) (argsL := [(.int (3 : Int32)), (.int cv_1), (.int cv_3), (.int cv_6), (.int cv_9), (.int cv_12), (.int cv_15)]) (rest := []) (lenOf pd_8 rfl) rfl (by show 2 * 0 + _ ≤ _; exact Nat.le_of_eq rfl) (hb hby at_102) (fun _ _ => ⟨rfl, rfl, (by decide : 12 + 3 ≤ _), (by decide : 144 + 10 ≤ _)⟩)
    dsimp only [Pt.U, Pt.locs, Pt.cells, Pt.slots] at X37' hS37' hg37 lq37 yq37 zq37 st37 hQ37 CH37
    have X37' := own_reb X37' lq37 yq37 zq37
    obtain ⟨X37, hS37, hZ37, hown37⟩ := rebS hS15 (own_hk rfl hk15) X37' hS37' hg37 hZ15 hown15
    obtain ⟨nx_37, nt_37, nk_37, rfl, Nq37, Kq37, f37_0, f37_1, f37_2, f37_3⟩ := hQ37
    have N37 := Fr.app N15 Nq37
    have Re39 := Re17.trans CH37
    have hCe39 := Re39.1
    have K37 : Keep h0 T37.heap [] := K15.trans Kq37 all0
    have Z37 : n0 ≤ T37.heap.size := Nat.le_trans Z15 Kq37.1
    have hk37 : T37.heap.size ≤ T37.heap.size := Nat.le_refl _
    have sg40 : ∀ target, SS p e below T37 (mkF m 156 #[vi p0, vl q1, us, vi (3 : Int32), vi vK, vi vM, vi cv_1, vi cv_3, vi cv_6, vi cv_9, vi cv_12, vi cv_15, vr nx_37, uu] [(.int (64 : Int32)), (.int cv_1)]) target → SS p e below T15 (mkF m 102 #[vi p0, vl q1, us, vi (3 : Int32), vi vK, vi vM, vi cv_1, vi cv_3, vi cv_6, vi cv_9, vi cv_12, vi cv_15, uu, uu] [(.int cv_15), (.int cv_12), (.int cv_9), (.int cv_6), (.int cv_3), (.int cv_1), (.int (3 : Int32))]) target := by
      intro target kt
      show SS p e below T15 (mkF m 102 #[vi p0, vl q1, us, vi (3 : Int32), vi vK, vi vM, vi cv_1, vi cv_3, vi cv_6, vi cv_9, vi cv_12, vi cv_15, uu, uu] [(.int cv_15), (.int cv_12), (.int cv_9), (.int cv_6), (.int cv_3), (.int cv_1), (.int (3 : Int32))]) _
      refine st37.trans ?_
      show SS p e below T37 (mkF m 105 #[vi p0, vl q1, us, vi (3 : Int32), vi vK, vi vM, vi cv_1, vi cv_3, vi cv_6, vi cv_9, vi cv_12, vi cv_15, uu, uu] [(.ref nx_37)]) _
      refine XS.astore X37.here hx rfl (hb hby at_105) rfl rfl (l' := #[vi p0, vl q1, us, vi (3 : Int32), vi vK, vi vM, vi cv_1, vi cv_3, vi cv_6, vi cv_9, vi cv_12, vi cv_15, vr nx_37, uu]) rfl ?_
      show SS p e below T37 (mkF m 107 #[vi p0, vl q1, us, vi (3 : Int32), vi vK, vi vM, vi cv_1, vi cv_3, vi cv_6, vi cv_9, vi cv_12, vi cv_15, vr nx_37, uu] []) _
      refine XS.iloadN X37.here hx rfl (hb hby at_107) rfl ?_
      show SS p e below T37 (mkF m 108 #[vi p0, vl q1, us, vi (3 : Int32), vi vK, vi vM, vi cv_1, vi cv_3, vi cv_6, vi cv_9, vi cv_12, vi cv_15, vr nx_37, uu] [(.int (3 : Int32))]) _
      refine XS.iconst X37.here hx rfl (hb hby at_108) ?_
      show SS p e below T37 (mkF m 109 #[vi p0, vl q1, us, vi (3 : Int32), vi vK, vi vM, vi cv_1, vi cv_3, vi cv_6, vi cv_9, vi cv_12, vi cv_15, vr nx_37, uu] [(.int (5 : Int32)), (.int (3 : Int32))]) _
      refine XS.icmpYes X37.here hx rfl (pc0 := 109) (pc' := 147) rfl (hb hby at_109) rfl (feq (by decide : ¬ ((3 : Int32) = (5 : Int32)))).2 (by decide) (by decide) ?_
      show SS p e below T37 (mkF m 147 #[vi p0, vl q1, us, vi (3 : Int32), vi vK, vi vM, vi cv_1, vi cv_3, vi cv_6, vi cv_9, vi cv_12, vi cv_15, vr nx_37, uu] []) _
      refine XS.iloadN X37.here hx rfl (hb hby at_147) rfl ?_
      show SS p e below T37 (mkF m 148 #[vi p0, vl q1, us, vi (3 : Int32), vi vK, vi vM, vi cv_1, vi cv_3, vi cv_6, vi cv_9, vi cv_12, vi cv_15, vr nx_37, uu] [(.int (3 : Int32))]) _
      refine XS.iconst X37.here hx rfl (hb hby at_148) ?_
      show SS p e below T37 (mkF m 149 #[vi p0, vl q1, us, vi (3 : Int32), vi vK, vi vM, vi cv_1, vi cv_3, vi cv_6, vi cv_9, vi cv_12, vi cv_15, vr nx_37, uu] [(.int (3 : Int32)), (.int (3 : Int32))]) _
      refine XS.icmpNo X37.here hx rfl (hb hby at_149) rfl (teq (by decide : (3 : Int32) = (3 : Int32))).2 ?_
      show SS p e below T37 (mkF m 152 #[vi p0, vl q1, us, vi (3 : Int32), vi vK, vi vM, vi cv_1, vi cv_3, vi cv_6, vi cv_9, vi cv_12, vi cv_15, vr nx_37, uu] []) _
      refine XS.iload X37.here hx rfl (hb hby at_152) rfl ?_
      show SS p e below T37 (mkF m 154 #[vi p0, vl q1, us, vi (3 : Int32), vi vK, vi vM, vi cv_1, vi cv_3, vi cv_6, vi cv_9, vi cv_12, vi cv_15, vr nx_37, uu] [(.int cv_1)]) _
      refine XS.bipush X37.here hx rfl (hb hby at_154) ?_
      exact kt
    by_cases hc156 : cv_1 = (64 : Int32)
    · have sg41 : ∀ target, SS p e below T37 (mkF m 163 #[vi p0, vl q1, us, vi (3 : Int32), vi vK, vi vM, vi cv_1, vi cv_3, vi cv_6, vi cv_9, vi cv_12, vi cv_15, vr nx_37, uu] [(.int (105 : Int32)), (.int cv_3)]) target → SS p e below T37 (mkF m 156 #[vi p0, vl q1, us, vi (3 : Int32), vi vK, vi vM, vi cv_1, vi cv_3, vi cv_6, vi cv_9, vi cv_12, vi cv_15, vr nx_37, uu] [(.int (64 : Int32)), (.int cv_1)]) target := by
        intro target kt
        show SS p e below T37 (mkF m 156 #[vi p0, vl q1, us, vi (3 : Int32), vi vK, vi vM, vi cv_1, vi cv_3, vi cv_6, vi cv_9, vi cv_12, vi cv_15, vr nx_37, uu] [(.int (64 : Int32)), (.int cv_1)]) _
        refine XS.icmpNo X37.here hx rfl (hb hby at_156) rfl (teq (hc156 : cv_1 = (64 : Int32))).2 ?_
        show SS p e below T37 (mkF m 159 #[vi p0, vl q1, us, vi (3 : Int32), vi vK, vi vM, vi cv_1, vi cv_3, vi cv_6, vi cv_9, vi cv_12, vi cv_15, vr nx_37, uu] []) _
        refine XS.iload X37.here hx rfl (hb hby at_159) rfl ?_
        show SS p e below T37 (mkF m 161 #[vi p0, vl q1, us, vi (3 : Int32), vi vK, vi vM, vi cv_1, vi cv_3, vi cv_6, vi cv_9, vi cv_12, vi cv_15, vr nx_37, uu] [(.int cv_3)]) _
        refine XS.bipush X37.here hx rfl (hb hby at_161) ?_
        exact kt
      by_cases hc163 : cv_3 = (105 : Int32)
      · have sg42 : ∀ target, SS p e below T37 (mkF m 170 #[vi p0, vl q1, us, vi (3 : Int32), vi vK, vi vM, vi cv_1, vi cv_3, vi cv_6, vi cv_9, vi cv_12, vi cv_15, vr nx_37, uu] [(.int (100 : Int32)), (.int cv_6)]) target → SS p e below T37 (mkF m 163 #[vi p0, vl q1, us, vi (3 : Int32), vi vK, vi vM, vi cv_1, vi cv_3, vi cv_6, vi cv_9, vi cv_12, vi cv_15, vr nx_37, uu] [(.int (105 : Int32)), (.int cv_3)]) target := by
          intro target kt
          show SS p e below T37 (mkF m 163 #[vi p0, vl q1, us, vi (3 : Int32), vi vK, vi vM, vi cv_1, vi cv_3, vi cv_6, vi cv_9, vi cv_12, vi cv_15, vr nx_37, uu] [(.int (105 : Int32)), (.int cv_3)]) _
          refine XS.icmpNo X37.here hx rfl (hb hby at_163) rfl (teq (hc163 : cv_3 = (105 : Int32))).2 ?_
          show SS p e below T37 (mkF m 166 #[vi p0, vl q1, us, vi (3 : Int32), vi vK, vi vM, vi cv_1, vi cv_3, vi cv_6, vi cv_9, vi cv_12, vi cv_15, vr nx_37, uu] []) _
          refine XS.iload X37.here hx rfl (hb hby at_166) rfl ?_
          show SS p e below T37 (mkF m 168 #[vi p0, vl q1, us, vi (3 : Int32), vi vK, vi vM, vi cv_1, vi cv_3, vi cv_6, vi cv_9, vi cv_12, vi cv_15, vr nx_37, uu] [(.int cv_6)]) _
          refine XS.bipush X37.here hx rfl (hb hby at_168) ?_
          exact kt
        by_cases hc170 : cv_6 = (100 : Int32)
        · have c44 := (c38.keep Kq37 all0)
          obtain ⟨_, _, ⟨T43, Lw43, kw43, nw43⟩, -, X43', hS43', hg43, ⟨Lc43, hQ43, lq43, yq43, zq43, CH43⟩, st43⟩ := callSS X37 hx (y := (⟨"com/example/wireform/wireform/json/Json", "isReserved", "(Ljava/lang/String;)Z"⟩ : MethodName)) hown37 (mvT hZ37 (wd hw 70 rfl)) (mvT hZ37 (wd hw 71 rfl)) (mvT hZ37 (wd hw 72 rfl)) (mvT hZ37 (wd hw 73 rfl)) (by decide) (backOfSH (W := 0) (rmR l Z a0 hw [] nx_37 zc fm nt_37 nk_37 ([cv_1, cv_3, cv_6] : List Int32) T37.heap n0 Z37 c44 uS uF uP uR f37_0 f37_1 f37_2 f37_3 (own_all3 f1_0 f3_0 f6_0) (Nat.le_of_ble_eq_true rfl)) hZ37 (wd hw 73 rfl) (wd hw 72 rfl) (by decide) (by decide) (own_EW hw) hCe39) (g := (mkF m 215 #[vi p0, vl q1, us, vi (3 : Int32), vi vK, vi vM, vi cv_1, vi cv_3, vi cv_6, vi cv_9, vi cv_12, vi cv_15, vr nx_37, vi (1 : Int32)] [(.ref nx_37)])) rfl (by rw [hml]; rfl) (argsL := [(.ref nx_37)]) (rest := []) (lenOf pd_9 rfl) rfl (by show 2 * 0 + _ ≤ _; exact Nat.le_of_eq rfl) (hb hby at_215) (fun _ _ => ⟨rfl, rfl, (by decide : 15 + 6 ≤ _), (by decide : 154 + 60 ≤ _)⟩)
          dsimp only [Pt.U, Pt.locs, Pt.cells, Pt.slots] at X43' hS43' hg43 lq43 yq43 zq43 st43 hQ43 CH43
          have X43' := own_reb X43' lq43 yq43 zq43
          obtain ⟨X43, hS43, hZ43, hown43⟩ := rebS hS37 (own_hk rfl hk37) X43' hS43' hg43 hZ37 hown37
          obtain ⟨rfl, Nq43, Kq43⟩ := hQ43
          have N43 := Fr.app N37 Nq43
          have Re45 := Re39.trans CH43
          have hCe45 := Re45.1
          have K43 : Keep h0 T43.heap [] := K37.trans Kq43 all0
          have Z43 : n0 ≤ T43.heap.size := Nat.le_trans Z37 Kq43.1
          have hk43 : T43.heap.size ≤ T43.heap.size := Nat.le_refl _
          obtain ⟨fs, hr, hrun, hended, en1, en2, en3, en4⟩ := X43.leaveW hS43 (own_hk rfl hk43) (v := some (.int (nar .boolean (1 : Int32)))) (fun h => by rw [Bd.returns] at h; cases h)
          refine ⟨_, _, pre0 _ ?_, hrun, hended, _, _, rfl, ?_, own_chr (T := T43) hh rfl (Re45.trans (CHv.at X43 hZ43 (own_EW hw) hCe45)), en1, en2, en3, en4.mono (by decide) (by decide)⟩
          · refine sg18 _ ?_
            refine sg40 _ ?_
            refine sg41 _ ?_
            refine sg42 _ ?_
            show SS p e below T37 (mkF m 170 #[vi p0, vl q1, us, vi (3 : Int32), vi vK, vi vM, vi cv_1, vi cv_3, vi cv_6, vi cv_9, vi cv_12, vi cv_15, vr nx_37, uu] [(.int (100 : Int32)), (.int cv_6)]) _
            refine XS.icmpYes X37.here hx rfl (pc0 := 170) (pc' := 206) rfl (hb hby at_170) rfl (teq (hc170 : cv_6 = (100 : Int32))).1 (by decide) (by decide) ?_
            show SS p e below T37 (mkF m 206 #[vi p0, vl q1, us, vi (3 : Int32), vi vK, vi vM, vi cv_1, vi cv_3, vi cv_6, vi cv_9, vi cv_12, vi cv_15, vr nx_37, uu] []) _
            refine XS.iconst X37.here hx rfl (hb hby at_206) ?_
            show SS p e below T37 (mkF m 207 #[vi p0, vl q1, us, vi (3 : Int32), vi vK, vi vM, vi cv_1, vi cv_3, vi cv_6, vi cv_9, vi cv_12, vi cv_15, vr nx_37, uu] [(.int (1 : Int32))]) _
            refine XS.goto X37.here hx rfl (pc0 := 207) (pc' := 211) rfl (hb hby at_207) (by decide) (by decide) ?_
            show SS p e below T37 (mkF m 211 #[vi p0, vl q1, us, vi (3 : Int32), vi vK, vi vM, vi cv_1, vi cv_3, vi cv_6, vi cv_9, vi cv_12, vi cv_15, vr nx_37, uu] [(.int (1 : Int32))]) _
            refine XS.istore X37.here hx rfl (hb hby at_211) rfl (l' := #[vi p0, vl q1, us, vi (3 : Int32), vi vK, vi vM, vi cv_1, vi cv_3, vi cv_6, vi cv_9, vi cv_12, vi cv_15, vr nx_37, vi (1 : Int32)]) rfl ?_
            show SS p e below T37 (mkF m 213 #[vi p0, vl q1, us, vi (3 : Int32), vi vK, vi vM, vi cv_1, vi cv_3, vi cv_6, vi cv_9, vi cv_12, vi cv_15, vr nx_37, vi (1 : Int32)] []) _
            refine XS.aload X37.here hx rfl (hb hby at_213) rfl rfl ?_
            show SS p e below T37 (mkF m 215 #[vi p0, vl q1, us, vi (3 : Int32), vi vK, vi vM, vi cv_1, vi cv_3, vi cv_6, vi cv_9, vi cv_12, vi cv_15, vr nx_37, vi (1 : Int32)] [(.ref nx_37)]) _
            refine st43.trans ?_
            show SS p e below T43 (mkF m 218 #[vi p0, vl q1, us, vi (3 : Int32), vi vK, vi vM, vi cv_1, vi cv_3, vi cv_6, vi cv_9, vi cv_12, vi cv_15, vr nx_37, vi (1 : Int32)] [(.int (own_res ([cv_1, cv_3, cv_6] : List Int32)))]) _
            refine XS.iload X43.here hx rfl (hb hby at_218) rfl ?_
            show SS p e below T43 (mkF m 220 #[vi p0, vl q1, us, vi (3 : Int32), vi vK, vi vM, vi cv_1, vi cv_3, vi cv_6, vi cv_9, vi cv_12, vi cv_15, vr nx_37, vi (1 : Int32)] [(.int (1 : Int32)), (.int (own_res ([cv_1, cv_3, cv_6] : List Int32)))]) _
            refine XS.icmpNo X43.here hx rfl (hb hby at_220) rfl (teq ((own_r3 cv_1 cv_3 cv_6).trans (by simp [hc156, hc163, hc170]) : (own_res ([cv_1, cv_3, cv_6] : List Int32)) = (1 : Int32))).2 ?_
            show SS p e below T43 (mkF m 223 #[vi p0, vl q1, us, vi (3 : Int32), vi vK, vi vM, vi cv_1, vi cv_3, vi cv_6, vi cv_9, vi cv_12, vi cv_15, vr nx_37, vi (1 : Int32)] []) _
            refine XS.iconst X43.here hx rfl (hb hby at_223) ?_
            show SS p e below T43 (mkF m 224 #[vi p0, vl q1, us, vi (3 : Int32), vi vK, vi vM, vi cv_1, vi cv_3, vi cv_6, vi cv_9, vi cv_12, vi cv_15, vr nx_37, vi (1 : Int32)] [(.int (1 : Int32))]) _
            refine XS.goto X43.here hx rfl (pc0 := 224) (pc' := 228) rfl (hb hby at_224) (by decide) (by decide) ?_
            show SS p e below T43 (mkF m 228 #[vi p0, vl q1, us, vi (3 : Int32), vi vK, vi vM, vi cv_1, vi cv_3, vi cv_6, vi cv_9, vi cv_12, vi cv_15, vr nx_37, vi (1 : Int32)] [(.int (1 : Int32))]) _
            exact retN X43 hx (t := .boolean) Bd.returns (by simp) (hb hby at_228) hr
          · show Q_rm0 Z p0 q1 zc fm (3 : Int32) vK vM h0 n0 _ T43.heap _
            exact ⟨rfl, N43⟩
        · have c47 := (c38.keep Kq37 all0)
          obtain ⟨_, _, ⟨T46, Lw46, kw46, nw46⟩, -, X46', hS46', hg46, ⟨Lc46, hQ46, lq46, yq46, zq46, CH46⟩, st46⟩ := callSS X37 hx (y := (⟨"com/example/wireform/wireform/json/Json", "isReserved", "(Ljava/lang/String;)Z"⟩ : MethodName)) hown37 (mvT hZ37 (wd hw 70 rfl)) (mvT hZ37 (wd hw 71 rfl)) (mvT hZ37 (wd hw 72 rfl)) (mvT hZ37 (wd hw 73 rfl)) (by decide) (backOfSH (W := 0) (rmR l Z a0 hw [] nx_37 zc fm nt_37 nk_37 ([cv_1, cv_3, cv_6] : List Int32) T37.heap n0 Z37 c47 uS uF uP uR f37_0 f37_1 f37_2 f37_3 (own_all3 f1_0 f3_0 f6_0) (Nat.le_of_ble_eq_true rfl)) hZ37 (wd hw 73 rfl) (wd hw 72 rfl) (by decide) (by decide) (own_EW hw) hCe39) (g := (mkF m 215 #[vi p0, vl q1, us, vi (3 : Int32), vi vK, vi vM, vi cv_1, vi cv_3, vi cv_6, vi cv_9, vi cv_12, vi cv_15, vr nx_37, vi (0 : Int32)] [(.ref nx_37)])) rfl (by rw [hml]; rfl) (argsL := [(.ref nx_37)]) (rest := []) (lenOf pd_9 rfl) rfl (by show 2 * 0 + _ ≤ _; exact Nat.le_of_eq rfl) (hb hby at_215) (fun _ _ => ⟨rfl, rfl, (by decide : 15 + 6 ≤ _), (by decide : 154 + 60 ≤ _)⟩)
          dsimp only [Pt.U, Pt.locs, Pt.cells, Pt.slots] at X46' hS46' hg46 lq46 yq46 zq46 st46 hQ46 CH46
          have X46' := own_reb X46' lq46 yq46 zq46
          obtain ⟨X46, hS46, hZ46, hown46⟩ := rebS hS37 (own_hk rfl hk37) X46' hS46' hg46 hZ37 hown37
          obtain ⟨rfl, Nq46, Kq46⟩ := hQ46
          have N46 := Fr.app N37 Nq46
          have Re48 := Re39.trans CH46
          have hCe48 := Re48.1
          have K46 : Keep h0 T46.heap [] := K37.trans Kq46 all0
          have Z46 : n0 ≤ T46.heap.size := Nat.le_trans Z37 Kq46.1
          have hk46 : T46.heap.size ≤ T46.heap.size := Nat.le_refl _
          obtain ⟨fs, hr, hrun, hended, en1, en2, en3, en4⟩ := X46.leaveW hS46 (own_hk rfl hk46) (v := some (.int (nar .boolean (1 : Int32)))) (fun h => by rw [Bd.returns] at h; cases h)
          refine ⟨_, _, pre0 _ ?_, hrun, hended, _, _, rfl, ?_, own_chr (T := T46) hh rfl (Re48.trans (CHv.at X46 hZ46 (own_EW hw) hCe48)), en1, en2, en3, en4.mono (by decide) (by decide)⟩
          · refine sg18 _ ?_
            refine sg40 _ ?_
            refine sg41 _ ?_
            refine sg42 _ ?_
            show SS p e below T37 (mkF m 170 #[vi p0, vl q1, us, vi (3 : Int32), vi vK, vi vM, vi cv_1, vi cv_3, vi cv_6, vi cv_9, vi cv_12, vi cv_15, vr nx_37, uu] [(.int (100 : Int32)), (.int cv_6)]) _
            refine XS.icmpNo X37.here hx rfl (hb hby at_170) rfl (feq (hc170 : ¬ (cv_6 = (100 : Int32)))).1 ?_
            show SS p e below T37 (mkF m 173 #[vi p0, vl q1, us, vi (3 : Int32), vi vK, vi vM, vi cv_1, vi cv_3, vi cv_6, vi cv_9, vi cv_12, vi cv_15, vr nx_37, uu] []) _
            refine XS.iloadN X37.here hx rfl (hb hby at_173) rfl ?_
            show SS p e below T37 (mkF m 174 #[vi p0, vl q1, us, vi (3 : Int32), vi vK, vi vM, vi cv_1, vi cv_3, vi cv_6, vi cv_9, vi cv_12, vi cv_15, vr nx_37, uu] [(.int (3 : Int32))]) _
            refine XS.iconst X37.here hx rfl (hb hby at_174) ?_
            show SS p e below T37 (mkF m 175 #[vi p0, vl q1, us, vi (3 : Int32), vi vK, vi vM, vi cv_1, vi cv_3, vi cv_6, vi cv_9, vi cv_12, vi cv_15, vr nx_37, uu] [(.int (4 : Int32)), (.int (3 : Int32))]) _
            refine XS.icmpYes X37.here hx rfl (pc0 := 175) (pc' := 210) rfl (hb hby at_175) rfl (feq (by decide : ¬ ((3 : Int32) = (4 : Int32)))).2 (by decide) (by decide) ?_
            show SS p e below T37 (mkF m 210 #[vi p0, vl q1, us, vi (3 : Int32), vi vK, vi vM, vi cv_1, vi cv_3, vi cv_6, vi cv_9, vi cv_12, vi cv_15, vr nx_37, uu] []) _
            refine XS.iconst X37.here hx rfl (hb hby at_210) ?_
            show SS p e below T37 (mkF m 211 #[vi p0, vl q1, us, vi (3 : Int32), vi vK, vi vM, vi cv_1, vi cv_3, vi cv_6, vi cv_9, vi cv_12, vi cv_15, vr nx_37, uu] [(.int (0 : Int32))]) _
            refine XS.istore X37.here hx rfl (hb hby at_211) rfl (l' := #[vi p0, vl q1, us, vi (3 : Int32), vi vK, vi vM, vi cv_1, vi cv_3, vi cv_6, vi cv_9, vi cv_12, vi cv_15, vr nx_37, vi (0 : Int32)]) rfl ?_
            show SS p e below T37 (mkF m 213 #[vi p0, vl q1, us, vi (3 : Int32), vi vK, vi vM, vi cv_1, vi cv_3, vi cv_6, vi cv_9, vi cv_12, vi cv_15, vr nx_37, vi (0 : Int32)] []) _
            refine XS.aload X37.here hx rfl (hb hby at_213) rfl rfl ?_
            show SS p e below T37 (mkF m 215 #[vi p0, vl q1, us, vi (3 : Int32), vi vK, vi vM, vi cv_1, vi cv_3, vi cv_6, vi cv_9, vi cv_12, vi cv_15, vr nx_37, vi (0 : Int32)] [(.ref nx_37)]) _
            refine st46.trans ?_
            show SS p e below T46 (mkF m 218 #[vi p0, vl q1, us, vi (3 : Int32), vi vK, vi vM, vi cv_1, vi cv_3, vi cv_6, vi cv_9, vi cv_12, vi cv_15, vr nx_37, vi (0 : Int32)] [(.int (own_res ([cv_1, cv_3, cv_6] : List Int32)))]) _
            refine XS.iload X46.here hx rfl (hb hby at_218) rfl ?_
            show SS p e below T46 (mkF m 220 #[vi p0, vl q1, us, vi (3 : Int32), vi vK, vi vM, vi cv_1, vi cv_3, vi cv_6, vi cv_9, vi cv_12, vi cv_15, vr nx_37, vi (0 : Int32)] [(.int (0 : Int32)), (.int (own_res ([cv_1, cv_3, cv_6] : List Int32)))]) _
            refine XS.icmpNo X46.here hx rfl (hb hby at_220) rfl (teq ((own_r3 cv_1 cv_3 cv_6).trans (by simp [hc156, hc163, hc170]) : (own_res ([cv_1, cv_3, cv_6] : List Int32)) = (0 : Int32))).2 ?_
            show SS p e below T46 (mkF m 223 #[vi p0, vl q1, us, vi (3 : Int32), vi vK, vi vM, vi cv_1, vi cv_3, vi cv_6, vi cv_9, vi cv_12, vi cv_15, vr nx_37, vi (0 : Int32)] []) _
            refine XS.iconst X46.here hx rfl (hb hby at_223) ?_
            show SS p e below T46 (mkF m 224 #[vi p0, vl q1, us, vi (3 : Int32), vi vK, vi vM, vi cv_1, vi cv_3, vi cv_6, vi cv_9, vi cv_12, vi cv_15, vr nx_37, vi (0 : Int32)] [(.int (1 : Int32))]) _
            refine XS.goto X46.here hx rfl (pc0 := 224) (pc' := 228) rfl (hb hby at_224) (by decide) (by decide) ?_
            show SS p e below T46 (mkF m 228 #[vi p0, vl q1, us, vi (3 : Int32), vi vK, vi vM, vi cv_1, vi cv_3, vi cv_6, vi cv_9, vi cv_12, vi cv_15, vr nx_37, vi (0 : Int32)] [(.int (1 : Int32))]) _
            exact retN X46 hx (t := .boolean) Bd.returns (by simp) (hb hby at_228) hr
          · show Q_rm0 Z p0 q1 zc fm (3 : Int32) vK vM h0 n0 _ T46.heap _
            exact ⟨rfl, N46⟩
      · have c50 := (c38.keep Kq37 all0)
        obtain ⟨_, _, ⟨T49, Lw49, kw49, nw49⟩, -, X49', hS49', hg49, ⟨Lc49, hQ49, lq49, yq49, zq49, CH49⟩, st49⟩ := callSS X37 hx (y := (⟨"com/example/wireform/wireform/json/Json", "isReserved", "(Ljava/lang/String;)Z"⟩ : MethodName)) hown37 (mvT hZ37 (wd hw 70 rfl)) (mvT hZ37 (wd hw 71 rfl)) (mvT hZ37 (wd hw 72 rfl)) (mvT hZ37 (wd hw 73 rfl)) (by decide) (backOfSH (W := 0) (rmR l Z a0 hw [] nx_37 zc fm nt_37 nk_37 ([cv_1, cv_3, cv_6] : List Int32) T37.heap n0 Z37 c50 uS uF uP uR f37_0 f37_1 f37_2 f37_3 (own_all3 f1_0 f3_0 f6_0) (Nat.le_of_ble_eq_true rfl)) hZ37 (wd hw 73 rfl) (wd hw 72 rfl) (by decide) (by decide) (own_EW hw) hCe39) (g := (mkF m 215 #[vi p0, vl q1, us, vi (3 : Int32), vi vK, vi vM, vi cv_1, vi cv_3, vi cv_6, vi cv_9, vi cv_12, vi cv_15, vr nx_37, vi (0 : Int32)] [(.ref nx_37)])) rfl (by rw [hml]; rfl) (argsL := [(.ref nx_37)]) (rest := []) (lenOf pd_9 rfl) rfl (by show 2 * 0 + _ ≤ _; exact Nat.le_of_eq rfl) (hb hby at_215) (fun _ _ => ⟨rfl, rfl, (by decide : 15 + 6 ≤ _), (by decide : 154 + 60 ≤ _)⟩)
        dsimp only [Pt.U, Pt.locs, Pt.cells, Pt.slots] at X49' hS49' hg49 lq49 yq49 zq49 st49 hQ49 CH49
        have X49' := own_reb X49' lq49 yq49 zq49
        obtain ⟨X49, hS49, hZ49, hown49⟩ := rebS hS37 (own_hk rfl hk37) X49' hS49' hg49 hZ37 hown37
        obtain ⟨rfl, Nq49, Kq49⟩ := hQ49
        have N49 := Fr.app N37 Nq49
        have Re51 := Re39.trans CH49
        have hCe51 := Re51.1
        have K49 : Keep h0 T49.heap [] := K37.trans Kq49 all0
        have Z49 : n0 ≤ T49.heap.size := Nat.le_trans Z37 Kq49.1
        have hk49 : T49.heap.size ≤ T49.heap.size := Nat.le_refl _
        obtain ⟨fs, hr, hrun, hended, en1, en2, en3, en4⟩ := X49.leaveW hS49 (own_hk rfl hk49) (v := some (.int (nar .boolean (1 : Int32)))) (fun h => by rw [Bd.returns] at h; cases h)
        refine ⟨_, _, pre0 _ ?_, hrun, hended, _, _, rfl, ?_, own_chr (T := T49) hh rfl (Re51.trans (CHv.at X49 hZ49 (own_EW hw) hCe51)), en1, en2, en3, en4.mono (by decide) (by decide)⟩
        · refine sg18 _ ?_
          refine sg40 _ ?_
          refine sg41 _ ?_
          show SS p e below T37 (mkF m 163 #[vi p0, vl q1, us, vi (3 : Int32), vi vK, vi vM, vi cv_1, vi cv_3, vi cv_6, vi cv_9, vi cv_12, vi cv_15, vr nx_37, uu] [(.int (105 : Int32)), (.int cv_3)]) _
          refine XS.icmpYes X37.here hx rfl (pc0 := 163) (pc' := 173) rfl (hb hby at_163) rfl (feq (hc163 : ¬ (cv_3 = (105 : Int32)))).2 (by decide) (by decide) ?_
          show SS p e below T37 (mkF m 173 #[vi p0, vl q1, us, vi (3 : Int32), vi vK, vi vM, vi cv_1, vi cv_3, vi cv_6, vi cv_9, vi cv_12, vi cv_15, vr nx_37, uu] []) _
          refine XS.iloadN X37.here hx rfl (hb hby at_173) rfl ?_
          show SS p e below T37 (mkF m 174 #[vi p0, vl q1, us, vi (3 : Int32), vi vK, vi vM, vi cv_1, vi cv_3, vi cv_6, vi cv_9, vi cv_12, vi cv_15, vr nx_37, uu] [(.int (3 : Int32))]) _
          refine XS.iconst X37.here hx rfl (hb hby at_174) ?_
          show SS p e below T37 (mkF m 175 #[vi p0, vl q1, us, vi (3 : Int32), vi vK, vi vM, vi cv_1, vi cv_3, vi cv_6, vi cv_9, vi cv_12, vi cv_15, vr nx_37, uu] [(.int (4 : Int32)), (.int (3 : Int32))]) _
          refine XS.icmpYes X37.here hx rfl (pc0 := 175) (pc' := 210) rfl (hb hby at_175) rfl (feq (by decide : ¬ ((3 : Int32) = (4 : Int32)))).2 (by decide) (by decide) ?_
          show SS p e below T37 (mkF m 210 #[vi p0, vl q1, us, vi (3 : Int32), vi vK, vi vM, vi cv_1, vi cv_3, vi cv_6, vi cv_9, vi cv_12, vi cv_15, vr nx_37, uu] []) _
          refine XS.iconst X37.here hx rfl (hb hby at_210) ?_
          show SS p e below T37 (mkF m 211 #[vi p0, vl q1, us, vi (3 : Int32), vi vK, vi vM, vi cv_1, vi cv_3, vi cv_6, vi cv_9, vi cv_12, vi cv_15, vr nx_37, uu] [(.int (0 : Int32))]) _
          refine XS.istore X37.here hx rfl (hb hby at_211) rfl (l' := #[vi p0, vl q1, us, vi (3 : Int32), vi vK, vi vM, vi cv_1, vi cv_3, vi cv_6, vi cv_9, vi cv_12, vi cv_15, vr nx_37, vi (0 : Int32)]) rfl ?_
          show SS p e below T37 (mkF m 213 #[vi p0, vl q1, us, vi (3 : Int32), vi vK, vi vM, vi cv_1, vi cv_3, vi cv_6, vi cv_9, vi cv_12, vi cv_15, vr nx_37, vi (0 : Int32)] []) _
          refine XS.aload X37.here hx rfl (hb hby at_213) rfl rfl ?_
          show SS p e below T37 (mkF m 215 #[vi p0, vl q1, us, vi (3 : Int32), vi vK, vi vM, vi cv_1, vi cv_3, vi cv_6, vi cv_9, vi cv_12, vi cv_15, vr nx_37, vi (0 : Int32)] [(.ref nx_37)]) _
          refine st49.trans ?_
          show SS p e below T49 (mkF m 218 #[vi p0, vl q1, us, vi (3 : Int32), vi vK, vi vM, vi cv_1, vi cv_3, vi cv_6, vi cv_9, vi cv_12, vi cv_15, vr nx_37, vi (0 : Int32)] [(.int (own_res ([cv_1, cv_3, cv_6] : List Int32)))]) _
          refine XS.iload X49.here hx rfl (hb hby at_218) rfl ?_
          show SS p e below T49 (mkF m 220 #[vi p0, vl q1, us, vi (3 : Int32), vi vK, vi vM, vi cv_1, vi cv_3, vi cv_6, vi cv_9, vi cv_12, vi cv_15, vr nx_37, vi (0 : Int32)] [(.int (0 : Int32)), (.int (own_res ([cv_1, cv_3, cv_6] : List Int32)))]) _
          refine XS.icmpNo X49.here hx rfl (hb hby at_220) rfl (teq ((own_r3 cv_1 cv_3 cv_6).trans (by simp [hc156, hc163]) : (own_res ([cv_1, cv_3, cv_6] : List Int32)) = (0 : Int32))).2 ?_
          show SS p e below T49 (mkF m 223 #[vi p0, vl q1, us, vi (3 : Int32), vi vK, vi vM, vi cv_1, vi cv_3, vi cv_6, vi cv_9, vi cv_12, vi cv_15, vr nx_37, vi (0 : Int32)] []) _
          refine XS.iconst X49.here hx rfl (hb hby at_223) ?_
          show SS p e below T49 (mkF m 224 #[vi p0, vl q1, us, vi (3 : Int32), vi vK, vi vM, vi cv_1, vi cv_3, vi cv_6, vi cv_9, vi cv_12, vi cv_15, vr nx_37, vi (0 : Int32)] [(.int (1 : Int32))]) _
          refine XS.goto X49.here hx rfl (pc0 := 224) (pc' := 228) rfl (hb hby at_224) (by decide) (by decide) ?_
          show SS p e below T49 (mkF m 228 #[vi p0, vl q1, us, vi (3 : Int32), vi vK, vi vM, vi cv_1, vi cv_3, vi cv_6, vi cv_9, vi cv_12, vi cv_15, vr nx_37, vi (0 : Int32)] [(.int (1 : Int32))]) _
          exact retN X49 hx (t := .boolean) Bd.returns (by simp) (hb hby at_228) hr
        · show Q_rm0 Z p0 q1 zc fm (3 : Int32) vK vM h0 n0 _ T49.heap _
          exact ⟨rfl, N49⟩
    · have c53 := (c38.keep Kq37 all0)
      obtain ⟨_, _, ⟨T52, Lw52, kw52, nw52⟩, -, X52', hS52', hg52, ⟨Lc52, hQ52, lq52, yq52, zq52, CH52⟩, st52⟩ := callSS X37 hx (y := (⟨"com/example/wireform/wireform/json/Json", "isReserved", "(Ljava/lang/String;)Z"⟩ : MethodName)) hown37 (mvT hZ37 (wd hw 70 rfl)) (mvT hZ37 (wd hw 71 rfl)) (mvT hZ37 (wd hw 72 rfl)) (mvT hZ37 (wd hw 73 rfl)) (by decide) (backOfSH (W := 0) (rmR l Z a0 hw [] nx_37 zc fm nt_37 nk_37 ([cv_1, cv_3, cv_6] : List Int32) T37.heap n0 Z37 c53 uS uF uP uR f37_0 f37_1 f37_2 f37_3 (own_all3 f1_0 f3_0 f6_0) (Nat.le_of_ble_eq_true rfl)) hZ37 (wd hw 73 rfl) (wd hw 72 rfl) (by decide) (by decide) (own_EW hw) hCe39) (g := (mkF m 215 #[vi p0, vl q1, us, vi (3 : Int32), vi vK, vi vM, vi cv_1, vi cv_3, vi cv_6, vi cv_9, vi cv_12, vi cv_15, vr nx_37, vi (0 : Int32)] [(.ref nx_37)])) rfl (by rw [hml]; rfl) (argsL := [(.ref nx_37)]) (rest := []) (lenOf pd_9 rfl) rfl (by show 2 * 0 + _ ≤ _; exact Nat.le_of_eq rfl) (hb hby at_215) (fun _ _ => ⟨rfl, rfl, (by decide : 15 + 6 ≤ _), (by decide : 154 + 60 ≤ _)⟩)
      dsimp only [Pt.U, Pt.locs, Pt.cells, Pt.slots] at X52' hS52' hg52 lq52 yq52 zq52 st52 hQ52 CH52
      have X52' := own_reb X52' lq52 yq52 zq52
      obtain ⟨X52, hS52, hZ52, hown52⟩ := rebS hS37 (own_hk rfl hk37) X52' hS52' hg52 hZ37 hown37
      obtain ⟨rfl, Nq52, Kq52⟩ := hQ52
      have N52 := Fr.app N37 Nq52
      have Re54 := Re39.trans CH52
      have hCe54 := Re54.1
      have K52 : Keep h0 T52.heap [] := K37.trans Kq52 all0
      have Z52 : n0 ≤ T52.heap.size := Nat.le_trans Z37 Kq52.1
      have hk52 : T52.heap.size ≤ T52.heap.size := Nat.le_refl _
      obtain ⟨fs, hr, hrun, hended, en1, en2, en3, en4⟩ := X52.leaveW hS52 (own_hk rfl hk52) (v := some (.int (nar .boolean (1 : Int32)))) (fun h => by rw [Bd.returns] at h; cases h)
      refine ⟨_, _, pre0 _ ?_, hrun, hended, _, _, rfl, ?_, own_chr (T := T52) hh rfl (Re54.trans (CHv.at X52 hZ52 (own_EW hw) hCe54)), en1, en2, en3, en4.mono (by decide) (by decide)⟩
      · refine sg18 _ ?_
        refine sg40 _ ?_
        show SS p e below T37 (mkF m 156 #[vi p0, vl q1, us, vi (3 : Int32), vi vK, vi vM, vi cv_1, vi cv_3, vi cv_6, vi cv_9, vi cv_12, vi cv_15, vr nx_37, uu] [(.int (64 : Int32)), (.int cv_1)]) _
        refine XS.icmpYes X37.here hx rfl (pc0 := 156) (pc' := 173) rfl (hb hby at_156) rfl (feq (hc156 : ¬ (cv_1 = (64 : Int32)))).2 (by decide) (by decide) ?_
        show SS p e below T37 (mkF m 173 #[vi p0, vl q1, us, vi (3 : Int32), vi vK, vi vM, vi cv_1, vi cv_3, vi cv_6, vi cv_9, vi cv_12, vi cv_15, vr nx_37, uu] []) _
        refine XS.iloadN X37.here hx rfl (hb hby at_173) rfl ?_
        show SS p e below T37 (mkF m 174 #[vi p0, vl q1, us, vi (3 : Int32), vi vK, vi vM, vi cv_1, vi cv_3, vi cv_6, vi cv_9, vi cv_12, vi cv_15, vr nx_37, uu] [(.int (3 : Int32))]) _
        refine XS.iconst X37.here hx rfl (hb hby at_174) ?_
        show SS p e below T37 (mkF m 175 #[vi p0, vl q1, us, vi (3 : Int32), vi vK, vi vM, vi cv_1, vi cv_3, vi cv_6, vi cv_9, vi cv_12, vi cv_15, vr nx_37, uu] [(.int (4 : Int32)), (.int (3 : Int32))]) _
        refine XS.icmpYes X37.here hx rfl (pc0 := 175) (pc' := 210) rfl (hb hby at_175) rfl (feq (by decide : ¬ ((3 : Int32) = (4 : Int32)))).2 (by decide) (by decide) ?_
        show SS p e below T37 (mkF m 210 #[vi p0, vl q1, us, vi (3 : Int32), vi vK, vi vM, vi cv_1, vi cv_3, vi cv_6, vi cv_9, vi cv_12, vi cv_15, vr nx_37, uu] []) _
        refine XS.iconst X37.here hx rfl (hb hby at_210) ?_
        show SS p e below T37 (mkF m 211 #[vi p0, vl q1, us, vi (3 : Int32), vi vK, vi vM, vi cv_1, vi cv_3, vi cv_6, vi cv_9, vi cv_12, vi cv_15, vr nx_37, uu] [(.int (0 : Int32))]) _
        refine XS.istore X37.here hx rfl (hb hby at_211) rfl (l' := #[vi p0, vl q1, us, vi (3 : Int32), vi vK, vi vM, vi cv_1, vi cv_3, vi cv_6, vi cv_9, vi cv_12, vi cv_15, vr nx_37, vi (0 : Int32)]) rfl ?_
        show SS p e below T37 (mkF m 213 #[vi p0, vl q1, us, vi (3 : Int32), vi vK, vi vM, vi cv_1, vi cv_3, vi cv_6, vi cv_9, vi cv_12, vi cv_15, vr nx_37, vi (0 : Int32)] []) _
        refine XS.aload X37.here hx rfl (hb hby at_213) rfl rfl ?_
        show SS p e below T37 (mkF m 215 #[vi p0, vl q1, us, vi (3 : Int32), vi vK, vi vM, vi cv_1, vi cv_3, vi cv_6, vi cv_9, vi cv_12, vi cv_15, vr nx_37, vi (0 : Int32)] [(.ref nx_37)]) _
        refine st52.trans ?_
        show SS p e below T52 (mkF m 218 #[vi p0, vl q1, us, vi (3 : Int32), vi vK, vi vM, vi cv_1, vi cv_3, vi cv_6, vi cv_9, vi cv_12, vi cv_15, vr nx_37, vi (0 : Int32)] [(.int (own_res ([cv_1, cv_3, cv_6] : List Int32)))]) _
        refine XS.iload X52.here hx rfl (hb hby at_218) rfl ?_
        show SS p e below T52 (mkF m 220 #[vi p0, vl q1, us, vi (3 : Int32), vi vK, vi vM, vi cv_1, vi cv_3, vi cv_6, vi cv_9, vi cv_12, vi cv_15, vr nx_37, vi (0 : Int32)] [(.int (0 : Int32)), (.int (own_res ([cv_1, cv_3, cv_6] : List Int32)))]) _
        refine XS.icmpNo X52.here hx rfl (hb hby at_220) rfl (teq ((own_r3 cv_1 cv_3 cv_6).trans (by simp [hc156]) : (own_res ([cv_1, cv_3, cv_6] : List Int32)) = (0 : Int32))).2 ?_
        show SS p e below T52 (mkF m 223 #[vi p0, vl q1, us, vi (3 : Int32), vi vK, vi vM, vi cv_1, vi cv_3, vi cv_6, vi cv_9, vi cv_12, vi cv_15, vr nx_37, vi (0 : Int32)] []) _
        refine XS.iconst X52.here hx rfl (hb hby at_223) ?_
        show SS p e below T52 (mkF m 224 #[vi p0, vl q1, us, vi (3 : Int32), vi vK, vi vM, vi cv_1, vi cv_3, vi cv_6, vi cv_9, vi cv_12, vi cv_15, vr nx_37, vi (0 : Int32)] [(.int (1 : Int32))]) _
        refine XS.goto X52.here hx rfl (pc0 := 224) (pc' := 228) rfl (hb hby at_224) (by decide) (by decide) ?_
        show SS p e below T52 (mkF m 228 #[vi p0, vl q1, us, vi (3 : Int32), vi vK, vi vM, vi cv_1, vi cv_3, vi cv_6, vi cv_9, vi cv_12, vi cv_15, vr nx_37, vi (0 : Int32)] [(.int (1 : Int32))]) _
        exact retN X52 hx (t := .boolean) Bd.returns (by simp) (hb hby at_228) hr
      · show Q_rm0 Z p0 q1 zc fm (3 : Int32) vK vM h0 n0 _ T52.heap _
        exact ⟨rfl, N52⟩
  · have c56 := (c16.keep Kq15 all0)
    obtain ⟨_, _, ⟨T55, Lw55, kw55, nw55⟩, -, X55', hS55', hg55, ⟨Lc55, hQ55, lq55, yq55, zq55, CH55⟩, st55⟩ := callSS X15 hx (y := (⟨"com/example/wireform/wireform/json/JsonIsReservedPinLaw", "make", "(ICCCCCC)Ljava/lang/String;"⟩ : MethodName)) hown15 (mvT hZ15 (wd hw 54 rfl)) (mvT hZ15 (wd hw 55 rfl)) (mvT hZ15 (wd hw 2 rfl)) (mvT hZ15 (wd hw 56 rfl)) (by decide) (backOfSH (W := 0) (rmM4 l Z a0 hw [] cv_1 cv_3 cv_6 cv_9 cv_12 cv_15 zc fm T15.heap n0 Z15 c56 uS uF uP uR f1_0 f3_0 f6_0 f9_0 f12_0 f15_0) hZ15 (wd hw 56 rfl) (wd hw 2 rfl) (by decide) (by decide) (own_EW hw) hCe17) (g := (mkF m 102 #[vi p0, vl q1, us, vi (4 : Int32), vi vK, vi vM, vi cv_1, vi cv_3, vi cv_6, vi cv_9, vi cv_12, vi cv_15, uu, uu] [(.int cv_15), (.int cv_12), (.int cv_9), (.int cv_6), (.int cv_3), (.int cv_1), (.int (4 : Int32))])) rfl (by rw [hml]; rfl) (argsL := [(.int (4 : Int32)), (.int cv_1), (.int cv_3), (.int cv_6), (.int cv_9), (.int cv_12), (.int cv_15)]) (rest := []) (lenOf pd_8 rfl) rfl (by show 2 * 0 + _ ≤ _; exact Nat.le_of_eq rfl) (hb hby at_102) (fun _ _ => ⟨rfl, rfl, (by decide : 12 + 3 ≤ _), (by decide : 144 + 12 ≤ _)⟩)
    dsimp only [Pt.U, Pt.locs, Pt.cells, Pt.slots] at X55' hS55' hg55 lq55 yq55 zq55 st55 hQ55 CH55
    have X55' := own_reb X55' lq55 yq55 zq55
    obtain ⟨X55, hS55, hZ55, hown55⟩ := rebS hS15 (own_hk rfl hk15) X55' hS55' hg55 hZ15 hown15
    obtain ⟨nx_55, nt_55, nk_55, rfl, Nq55, Kq55, f55_0, f55_1, f55_2, f55_3⟩ := hQ55
    have N55 := Fr.app N15 Nq55
    have Re57 := Re17.trans CH55
    have hCe57 := Re57.1
    have K55 : Keep h0 T55.heap [] := K15.trans Kq55 all0
    have Z55 : n0 ≤ T55.heap.size := Nat.le_trans Z15 Kq55.1
    have hk55 : T55.heap.size ≤ T55.heap.size := Nat.le_refl _
    have sg58 : ∀ target, SS p e below T55 (mkF m 182 #[vi p0, vl q1, us, vi (4 : Int32), vi vK, vi vM, vi cv_1, vi cv_3, vi cv_6, vi cv_9, vi cv_12, vi cv_15, vr nx_55, uu] [(.int (64 : Int32)), (.int cv_1)]) target → SS p e below T15 (mkF m 102 #[vi p0, vl q1, us, vi (4 : Int32), vi vK, vi vM, vi cv_1, vi cv_3, vi cv_6, vi cv_9, vi cv_12, vi cv_15, uu, uu] [(.int cv_15), (.int cv_12), (.int cv_9), (.int cv_6), (.int cv_3), (.int cv_1), (.int (4 : Int32))]) target := by
      intro target kt
      show SS p e below T15 (mkF m 102 #[vi p0, vl q1, us, vi (4 : Int32), vi vK, vi vM, vi cv_1, vi cv_3, vi cv_6, vi cv_9, vi cv_12, vi cv_15, uu, uu] [(.int cv_15), (.int cv_12), (.int cv_9), (.int cv_6), (.int cv_3), (.int cv_1), (.int (4 : Int32))]) _
      refine st55.trans ?_
      show SS p e below T55 (mkF m 105 #[vi p0, vl q1, us, vi (4 : Int32), vi vK, vi vM, vi cv_1, vi cv_3, vi cv_6, vi cv_9, vi cv_12, vi cv_15, uu, uu] [(.ref nx_55)]) _
      refine XS.astore X55.here hx rfl (hb hby at_105) rfl rfl (l' := #[vi p0, vl q1, us, vi (4 : Int32), vi vK, vi vM, vi cv_1, vi cv_3, vi cv_6, vi cv_9, vi cv_12, vi cv_15, vr nx_55, uu]) rfl ?_
      show SS p e below T55 (mkF m 107 #[vi p0, vl q1, us, vi (4 : Int32), vi vK, vi vM, vi cv_1, vi cv_3, vi cv_6, vi cv_9, vi cv_12, vi cv_15, vr nx_55, uu] []) _
      refine XS.iloadN X55.here hx rfl (hb hby at_107) rfl ?_
      show SS p e below T55 (mkF m 108 #[vi p0, vl q1, us, vi (4 : Int32), vi vK, vi vM, vi cv_1, vi cv_3, vi cv_6, vi cv_9, vi cv_12, vi cv_15, vr nx_55, uu] [(.int (4 : Int32))]) _
      refine XS.iconst X55.here hx rfl (hb hby at_108) ?_
      show SS p e below T55 (mkF m 109 #[vi p0, vl q1, us, vi (4 : Int32), vi vK, vi vM, vi cv_1, vi cv_3, vi cv_6, vi cv_9, vi cv_12, vi cv_15, vr nx_55, uu] [(.int (5 : Int32)), (.int (4 : Int32))]) _
      refine XS.icmpYes X55.here hx rfl (pc0 := 109) (pc' := 147) rfl (hb hby at_109) rfl (feq (by decide : ¬ ((4 : Int32) = (5 : Int32)))).2 (by decide) (by decide) ?_
      show SS p e below T55 (mkF m 147 #[vi p0, vl q1, us, vi (4 : Int32), vi vK, vi vM, vi cv_1, vi cv_3, vi cv_6, vi cv_9, vi cv_12, vi cv_15, vr nx_55, uu] []) _
      refine XS.iloadN X55.here hx rfl (hb hby at_147) rfl ?_
      show SS p e below T55 (mkF m 148 #[vi p0, vl q1, us, vi (4 : Int32), vi vK, vi vM, vi cv_1, vi cv_3, vi cv_6, vi cv_9, vi cv_12, vi cv_15, vr nx_55, uu] [(.int (4 : Int32))]) _
      refine XS.iconst X55.here hx rfl (hb hby at_148) ?_
      show SS p e below T55 (mkF m 149 #[vi p0, vl q1, us, vi (4 : Int32), vi vK, vi vM, vi cv_1, vi cv_3, vi cv_6, vi cv_9, vi cv_12, vi cv_15, vr nx_55, uu] [(.int (3 : Int32)), (.int (4 : Int32))]) _
      refine XS.icmpYes X55.here hx rfl (pc0 := 149) (pc' := 173) rfl (hb hby at_149) rfl (feq (by decide : ¬ ((4 : Int32) = (3 : Int32)))).2 (by decide) (by decide) ?_
      show SS p e below T55 (mkF m 173 #[vi p0, vl q1, us, vi (4 : Int32), vi vK, vi vM, vi cv_1, vi cv_3, vi cv_6, vi cv_9, vi cv_12, vi cv_15, vr nx_55, uu] []) _
      refine XS.iloadN X55.here hx rfl (hb hby at_173) rfl ?_
      show SS p e below T55 (mkF m 174 #[vi p0, vl q1, us, vi (4 : Int32), vi vK, vi vM, vi cv_1, vi cv_3, vi cv_6, vi cv_9, vi cv_12, vi cv_15, vr nx_55, uu] [(.int (4 : Int32))]) _
      refine XS.iconst X55.here hx rfl (hb hby at_174) ?_
      show SS p e below T55 (mkF m 175 #[vi p0, vl q1, us, vi (4 : Int32), vi vK, vi vM, vi cv_1, vi cv_3, vi cv_6, vi cv_9, vi cv_12, vi cv_15, vr nx_55, uu] [(.int (4 : Int32)), (.int (4 : Int32))]) _
      refine XS.icmpNo X55.here hx rfl (hb hby at_175) rfl (teq (by decide : (4 : Int32) = (4 : Int32))).2 ?_
      show SS p e below T55 (mkF m 178 #[vi p0, vl q1, us, vi (4 : Int32), vi vK, vi vM, vi cv_1, vi cv_3, vi cv_6, vi cv_9, vi cv_12, vi cv_15, vr nx_55, uu] []) _
      refine XS.iload X55.here hx rfl (hb hby at_178) rfl ?_
      show SS p e below T55 (mkF m 180 #[vi p0, vl q1, us, vi (4 : Int32), vi vK, vi vM, vi cv_1, vi cv_3, vi cv_6, vi cv_9, vi cv_12, vi cv_15, vr nx_55, uu] [(.int cv_1)]) _
      refine XS.bipush X55.here hx rfl (hb hby at_180) ?_
      exact kt
    by_cases hc182 : cv_1 = (64 : Int32)
    · have sg59 : ∀ target, SS p e below T55 (mkF m 189 #[vi p0, vl q1, us, vi (4 : Int32), vi vK, vi vM, vi cv_1, vi cv_3, vi cv_6, vi cv_9, vi cv_12, vi cv_15, vr nx_55, uu] [(.int (114 : Int32)), (.int cv_3)]) target → SS p e below T55 (mkF m 182 #[vi p0, vl q1, us, vi (4 : Int32), vi vK, vi vM, vi cv_1, vi cv_3, vi cv_6, vi cv_9, vi cv_12, vi cv_15, vr nx_55, uu] [(.int (64 : Int32)), (.int cv_1)]) target := by
        intro target kt
        show SS p e below T55 (mkF m 182 #[vi p0, vl q1, us, vi (4 : Int32), vi vK, vi vM, vi cv_1, vi cv_3, vi cv_6, vi cv_9, vi cv_12, vi cv_15, vr nx_55, uu] [(.int (64 : Int32)), (.int cv_1)]) _
        refine XS.icmpNo X55.here hx rfl (hb hby at_182) rfl (teq (hc182 : cv_1 = (64 : Int32))).2 ?_
        show SS p e below T55 (mkF m 185 #[vi p0, vl q1, us, vi (4 : Int32), vi vK, vi vM, vi cv_1, vi cv_3, vi cv_6, vi cv_9, vi cv_12, vi cv_15, vr nx_55, uu] []) _
        refine XS.iload X55.here hx rfl (hb hby at_185) rfl ?_
        show SS p e below T55 (mkF m 187 #[vi p0, vl q1, us, vi (4 : Int32), vi vK, vi vM, vi cv_1, vi cv_3, vi cv_6, vi cv_9, vi cv_12, vi cv_15, vr nx_55, uu] [(.int cv_3)]) _
        refine XS.bipush X55.here hx rfl (hb hby at_187) ?_
        exact kt
      by_cases hc189 : cv_3 = (114 : Int32)
      · have sg60 : ∀ target, SS p e below T55 (mkF m 196 #[vi p0, vl q1, us, vi (4 : Int32), vi vK, vi vM, vi cv_1, vi cv_3, vi cv_6, vi cv_9, vi cv_12, vi cv_15, vr nx_55, uu] [(.int (101 : Int32)), (.int cv_6)]) target → SS p e below T55 (mkF m 189 #[vi p0, vl q1, us, vi (4 : Int32), vi vK, vi vM, vi cv_1, vi cv_3, vi cv_6, vi cv_9, vi cv_12, vi cv_15, vr nx_55, uu] [(.int (114 : Int32)), (.int cv_3)]) target := by
          intro target kt
          show SS p e below T55 (mkF m 189 #[vi p0, vl q1, us, vi (4 : Int32), vi vK, vi vM, vi cv_1, vi cv_3, vi cv_6, vi cv_9, vi cv_12, vi cv_15, vr nx_55, uu] [(.int (114 : Int32)), (.int cv_3)]) _
          refine XS.icmpNo X55.here hx rfl (hb hby at_189) rfl (teq (hc189 : cv_3 = (114 : Int32))).2 ?_
          show SS p e below T55 (mkF m 192 #[vi p0, vl q1, us, vi (4 : Int32), vi vK, vi vM, vi cv_1, vi cv_3, vi cv_6, vi cv_9, vi cv_12, vi cv_15, vr nx_55, uu] []) _
          refine XS.iload X55.here hx rfl (hb hby at_192) rfl ?_
          show SS p e below T55 (mkF m 194 #[vi p0, vl q1, us, vi (4 : Int32), vi vK, vi vM, vi cv_1, vi cv_3, vi cv_6, vi cv_9, vi cv_12, vi cv_15, vr nx_55, uu] [(.int cv_6)]) _
          refine XS.bipush X55.here hx rfl (hb hby at_194) ?_
          exact kt
        by_cases hc196 : cv_6 = (101 : Int32)
        · have sg61 : ∀ target, SS p e below T55 (mkF m 203 #[vi p0, vl q1, us, vi (4 : Int32), vi vK, vi vM, vi cv_1, vi cv_3, vi cv_6, vi cv_9, vi cv_12, vi cv_15, vr nx_55, uu] [(.int (102 : Int32)), (.int cv_9)]) target → SS p e below T55 (mkF m 196 #[vi p0, vl q1, us, vi (4 : Int32), vi vK, vi vM, vi cv_1, vi cv_3, vi cv_6, vi cv_9, vi cv_12, vi cv_15, vr nx_55, uu] [(.int (101 : Int32)), (.int cv_6)]) target := by
            intro target kt
            show SS p e below T55 (mkF m 196 #[vi p0, vl q1, us, vi (4 : Int32), vi vK, vi vM, vi cv_1, vi cv_3, vi cv_6, vi cv_9, vi cv_12, vi cv_15, vr nx_55, uu] [(.int (101 : Int32)), (.int cv_6)]) _
            refine XS.icmpNo X55.here hx rfl (hb hby at_196) rfl (teq (hc196 : cv_6 = (101 : Int32))).2 ?_
            show SS p e below T55 (mkF m 199 #[vi p0, vl q1, us, vi (4 : Int32), vi vK, vi vM, vi cv_1, vi cv_3, vi cv_6, vi cv_9, vi cv_12, vi cv_15, vr nx_55, uu] []) _
            refine XS.iload X55.here hx rfl (hb hby at_199) rfl ?_
            show SS p e below T55 (mkF m 201 #[vi p0, vl q1, us, vi (4 : Int32), vi vK, vi vM, vi cv_1, vi cv_3, vi cv_6, vi cv_9, vi cv_12, vi cv_15, vr nx_55, uu] [(.int cv_9)]) _
            refine XS.bipush X55.here hx rfl (hb hby at_201) ?_
            exact kt
          by_cases hc203 : cv_9 = (102 : Int32)
          · have c63 := (c56.keep Kq55 all0)
            obtain ⟨_, _, ⟨T62, Lw62, kw62, nw62⟩, -, X62', hS62', hg62, ⟨Lc62, hQ62, lq62, yq62, zq62, CH62⟩, st62⟩ := callSS X55 hx (y := (⟨"com/example/wireform/wireform/json/Json", "isReserved", "(Ljava/lang/String;)Z"⟩ : MethodName)) hown55 (mvT hZ55 (wd hw 70 rfl)) (mvT hZ55 (wd hw 71 rfl)) (mvT hZ55 (wd hw 72 rfl)) (mvT hZ55 (wd hw 73 rfl)) (by decide) (backOfSH (W := 0) (rmR l Z a0 hw [] nx_55 zc fm nt_55 nk_55 ([cv_1, cv_3, cv_6, cv_9] : List Int32) T55.heap n0 Z55 c63 uS uF uP uR f55_0 f55_1 f55_2 f55_3 (own_all4 f1_0 f3_0 f6_0 f9_0) (Nat.le_of_ble_eq_true rfl)) hZ55 (wd hw 73 rfl) (wd hw 72 rfl) (by decide) (by decide) (own_EW hw) hCe57) (g := (mkF m 215 #[vi p0, vl q1, us, vi (4 : Int32), vi vK, vi vM, vi cv_1, vi cv_3, vi cv_6, vi cv_9, vi cv_12, vi cv_15, vr nx_55, vi (1 : Int32)] [(.ref nx_55)])) rfl (by rw [hml]; rfl) (argsL := [(.ref nx_55)]) (rest := []) (lenOf pd_9 rfl) rfl (by show 2 * 0 + _ ≤ _; exact Nat.le_of_eq rfl) (hb hby at_215) (fun _ _ => ⟨rfl, rfl, (by decide : 15 + 6 ≤ _), (by decide : 156 + 60 ≤ _)⟩)
            dsimp only [Pt.U, Pt.locs, Pt.cells, Pt.slots] at X62' hS62' hg62 lq62 yq62 zq62 st62 hQ62 CH62
            have X62' := own_reb X62' lq62 yq62 zq62
            obtain ⟨X62, hS62, hZ62, hown62⟩ := rebS hS55 (own_hk rfl hk55) X62' hS62' hg62 hZ55 hown55
            obtain ⟨rfl, Nq62, Kq62⟩ := hQ62
            have N62 := Fr.app N55 Nq62
            have Re64 := Re57.trans CH62
            have hCe64 := Re64.1
            have K62 : Keep h0 T62.heap [] := K55.trans Kq62 all0
            have Z62 : n0 ≤ T62.heap.size := Nat.le_trans Z55 Kq62.1
            have hk62 : T62.heap.size ≤ T62.heap.size := Nat.le_refl _
            obtain ⟨fs, hr, hrun, hended, en1, en2, en3, en4⟩ := X62.leaveW hS62 (own_hk rfl hk62) (v := some (.int (nar .boolean (1 : Int32)))) (fun h => by rw [Bd.returns] at h; cases h)
            refine ⟨_, _, pre0 _ ?_, hrun, hended, _, _, rfl, ?_, own_chr (T := T62) hh rfl (Re64.trans (CHv.at X62 hZ62 (own_EW hw) hCe64)), en1, en2, en3, en4.mono (by decide) (by decide)⟩
            · refine sg18 _ ?_
              refine sg58 _ ?_
              refine sg59 _ ?_
              refine sg60 _ ?_
              refine sg61 _ ?_
              show SS p e below T55 (mkF m 203 #[vi p0, vl q1, us, vi (4 : Int32), vi vK, vi vM, vi cv_1, vi cv_3, vi cv_6, vi cv_9, vi cv_12, vi cv_15, vr nx_55, uu] [(.int (102 : Int32)), (.int cv_9)]) _
              refine XS.icmpNo X55.here hx rfl (hb hby at_203) rfl (teq (hc203 : cv_9 = (102 : Int32))).2 ?_
              show SS p e below T55 (mkF m 206 #[vi p0, vl q1, us, vi (4 : Int32), vi vK, vi vM, vi cv_1, vi cv_3, vi cv_6, vi cv_9, vi cv_12, vi cv_15, vr nx_55, uu] []) _
              refine XS.iconst X55.here hx rfl (hb hby at_206) ?_
              show SS p e below T55 (mkF m 207 #[vi p0, vl q1, us, vi (4 : Int32), vi vK, vi vM, vi cv_1, vi cv_3, vi cv_6, vi cv_9, vi cv_12, vi cv_15, vr nx_55, uu] [(.int (1 : Int32))]) _
              refine XS.goto X55.here hx rfl (pc0 := 207) (pc' := 211) rfl (hb hby at_207) (by decide) (by decide) ?_
              show SS p e below T55 (mkF m 211 #[vi p0, vl q1, us, vi (4 : Int32), vi vK, vi vM, vi cv_1, vi cv_3, vi cv_6, vi cv_9, vi cv_12, vi cv_15, vr nx_55, uu] [(.int (1 : Int32))]) _
              refine XS.istore X55.here hx rfl (hb hby at_211) rfl (l' := #[vi p0, vl q1, us, vi (4 : Int32), vi vK, vi vM, vi cv_1, vi cv_3, vi cv_6, vi cv_9, vi cv_12, vi cv_15, vr nx_55, vi (1 : Int32)]) rfl ?_
              show SS p e below T55 (mkF m 213 #[vi p0, vl q1, us, vi (4 : Int32), vi vK, vi vM, vi cv_1, vi cv_3, vi cv_6, vi cv_9, vi cv_12, vi cv_15, vr nx_55, vi (1 : Int32)] []) _
              refine XS.aload X55.here hx rfl (hb hby at_213) rfl rfl ?_
              show SS p e below T55 (mkF m 215 #[vi p0, vl q1, us, vi (4 : Int32), vi vK, vi vM, vi cv_1, vi cv_3, vi cv_6, vi cv_9, vi cv_12, vi cv_15, vr nx_55, vi (1 : Int32)] [(.ref nx_55)]) _
              refine st62.trans ?_
              show SS p e below T62 (mkF m 218 #[vi p0, vl q1, us, vi (4 : Int32), vi vK, vi vM, vi cv_1, vi cv_3, vi cv_6, vi cv_9, vi cv_12, vi cv_15, vr nx_55, vi (1 : Int32)] [(.int (own_res ([cv_1, cv_3, cv_6, cv_9] : List Int32)))]) _
              refine XS.iload X62.here hx rfl (hb hby at_218) rfl ?_
              show SS p e below T62 (mkF m 220 #[vi p0, vl q1, us, vi (4 : Int32), vi vK, vi vM, vi cv_1, vi cv_3, vi cv_6, vi cv_9, vi cv_12, vi cv_15, vr nx_55, vi (1 : Int32)] [(.int (1 : Int32)), (.int (own_res ([cv_1, cv_3, cv_6, cv_9] : List Int32)))]) _
              refine XS.icmpNo X62.here hx rfl (hb hby at_220) rfl (teq ((own_r4 cv_1 cv_3 cv_6 cv_9).trans (by simp [hc182, hc189, hc196, hc203]) : (own_res ([cv_1, cv_3, cv_6, cv_9] : List Int32)) = (1 : Int32))).2 ?_
              show SS p e below T62 (mkF m 223 #[vi p0, vl q1, us, vi (4 : Int32), vi vK, vi vM, vi cv_1, vi cv_3, vi cv_6, vi cv_9, vi cv_12, vi cv_15, vr nx_55, vi (1 : Int32)] []) _
              refine XS.iconst X62.here hx rfl (hb hby at_223) ?_
              show SS p e below T62 (mkF m 224 #[vi p0, vl q1, us, vi (4 : Int32), vi vK, vi vM, vi cv_1, vi cv_3, vi cv_6, vi cv_9, vi cv_12, vi cv_15, vr nx_55, vi (1 : Int32)] [(.int (1 : Int32))]) _
              refine XS.goto X62.here hx rfl (pc0 := 224) (pc' := 228) rfl (hb hby at_224) (by decide) (by decide) ?_
              show SS p e below T62 (mkF m 228 #[vi p0, vl q1, us, vi (4 : Int32), vi vK, vi vM, vi cv_1, vi cv_3, vi cv_6, vi cv_9, vi cv_12, vi cv_15, vr nx_55, vi (1 : Int32)] [(.int (1 : Int32))]) _
              exact retN X62 hx (t := .boolean) Bd.returns (by simp) (hb hby at_228) hr
            · show Q_rm0 Z p0 q1 zc fm (4 : Int32) vK vM h0 n0 _ T62.heap _
              exact ⟨rfl, N62⟩
          · have c66 := (c56.keep Kq55 all0)
            obtain ⟨_, _, ⟨T65, Lw65, kw65, nw65⟩, -, X65', hS65', hg65, ⟨Lc65, hQ65, lq65, yq65, zq65, CH65⟩, st65⟩ := callSS X55 hx (y := (⟨"com/example/wireform/wireform/json/Json", "isReserved", "(Ljava/lang/String;)Z"⟩ : MethodName)) hown55 (mvT hZ55 (wd hw 70 rfl)) (mvT hZ55 (wd hw 71 rfl)) (mvT hZ55 (wd hw 72 rfl)) (mvT hZ55 (wd hw 73 rfl)) (by decide) (backOfSH (W := 0) (rmR l Z a0 hw [] nx_55 zc fm nt_55 nk_55 ([cv_1, cv_3, cv_6, cv_9] : List Int32) T55.heap n0 Z55 c66 uS uF uP uR f55_0 f55_1 f55_2 f55_3 (own_all4 f1_0 f3_0 f6_0 f9_0) (Nat.le_of_ble_eq_true rfl)) hZ55 (wd hw 73 rfl) (wd hw 72 rfl) (by decide) (by decide) (own_EW hw) hCe57) (g := (mkF m 215 #[vi p0, vl q1, us, vi (4 : Int32), vi vK, vi vM, vi cv_1, vi cv_3, vi cv_6, vi cv_9, vi cv_12, vi cv_15, vr nx_55, vi (0 : Int32)] [(.ref nx_55)])) rfl (by rw [hml]; rfl) (argsL := [(.ref nx_55)]) (rest := []) (lenOf pd_9 rfl) rfl (by show 2 * 0 + _ ≤ _; exact Nat.le_of_eq rfl) (hb hby at_215) (fun _ _ => ⟨rfl, rfl, (by decide : 15 + 6 ≤ _), (by decide : 156 + 60 ≤ _)⟩)
            dsimp only [Pt.U, Pt.locs, Pt.cells, Pt.slots] at X65' hS65' hg65 lq65 yq65 zq65 st65 hQ65 CH65
            have X65' := own_reb X65' lq65 yq65 zq65
            obtain ⟨X65, hS65, hZ65, hown65⟩ := rebS hS55 (own_hk rfl hk55) X65' hS65' hg65 hZ55 hown55
            obtain ⟨rfl, Nq65, Kq65⟩ := hQ65
            have N65 := Fr.app N55 Nq65
            have Re67 := Re57.trans CH65
            have hCe67 := Re67.1
            have K65 : Keep h0 T65.heap [] := K55.trans Kq65 all0
            have Z65 : n0 ≤ T65.heap.size := Nat.le_trans Z55 Kq65.1
            have hk65 : T65.heap.size ≤ T65.heap.size := Nat.le_refl _
            obtain ⟨fs, hr, hrun, hended, en1, en2, en3, en4⟩ := X65.leaveW hS65 (own_hk rfl hk65) (v := some (.int (nar .boolean (1 : Int32)))) (fun h => by rw [Bd.returns] at h; cases h)
            refine ⟨_, _, pre0 _ ?_, hrun, hended, _, _, rfl, ?_, own_chr (T := T65) hh rfl (Re67.trans (CHv.at X65 hZ65 (own_EW hw) hCe67)), en1, en2, en3, en4.mono (by decide) (by decide)⟩
            · refine sg18 _ ?_
              refine sg58 _ ?_
              refine sg59 _ ?_
              refine sg60 _ ?_
              refine sg61 _ ?_
              show SS p e below T55 (mkF m 203 #[vi p0, vl q1, us, vi (4 : Int32), vi vK, vi vM, vi cv_1, vi cv_3, vi cv_6, vi cv_9, vi cv_12, vi cv_15, vr nx_55, uu] [(.int (102 : Int32)), (.int cv_9)]) _
              refine XS.icmpYes X55.here hx rfl (pc0 := 203) (pc' := 210) rfl (hb hby at_203) rfl (feq (hc203 : ¬ (cv_9 = (102 : Int32)))).2 (by decide) (by decide) ?_
              show SS p e below T55 (mkF m 210 #[vi p0, vl q1, us, vi (4 : Int32), vi vK, vi vM, vi cv_1, vi cv_3, vi cv_6, vi cv_9, vi cv_12, vi cv_15, vr nx_55, uu] []) _
              refine XS.iconst X55.here hx rfl (hb hby at_210) ?_
              show SS p e below T55 (mkF m 211 #[vi p0, vl q1, us, vi (4 : Int32), vi vK, vi vM, vi cv_1, vi cv_3, vi cv_6, vi cv_9, vi cv_12, vi cv_15, vr nx_55, uu] [(.int (0 : Int32))]) _
              refine XS.istore X55.here hx rfl (hb hby at_211) rfl (l' := #[vi p0, vl q1, us, vi (4 : Int32), vi vK, vi vM, vi cv_1, vi cv_3, vi cv_6, vi cv_9, vi cv_12, vi cv_15, vr nx_55, vi (0 : Int32)]) rfl ?_
              show SS p e below T55 (mkF m 213 #[vi p0, vl q1, us, vi (4 : Int32), vi vK, vi vM, vi cv_1, vi cv_3, vi cv_6, vi cv_9, vi cv_12, vi cv_15, vr nx_55, vi (0 : Int32)] []) _
              refine XS.aload X55.here hx rfl (hb hby at_213) rfl rfl ?_
              show SS p e below T55 (mkF m 215 #[vi p0, vl q1, us, vi (4 : Int32), vi vK, vi vM, vi cv_1, vi cv_3, vi cv_6, vi cv_9, vi cv_12, vi cv_15, vr nx_55, vi (0 : Int32)] [(.ref nx_55)]) _
              refine st65.trans ?_
              show SS p e below T65 (mkF m 218 #[vi p0, vl q1, us, vi (4 : Int32), vi vK, vi vM, vi cv_1, vi cv_3, vi cv_6, vi cv_9, vi cv_12, vi cv_15, vr nx_55, vi (0 : Int32)] [(.int (own_res ([cv_1, cv_3, cv_6, cv_9] : List Int32)))]) _
              refine XS.iload X65.here hx rfl (hb hby at_218) rfl ?_
              show SS p e below T65 (mkF m 220 #[vi p0, vl q1, us, vi (4 : Int32), vi vK, vi vM, vi cv_1, vi cv_3, vi cv_6, vi cv_9, vi cv_12, vi cv_15, vr nx_55, vi (0 : Int32)] [(.int (0 : Int32)), (.int (own_res ([cv_1, cv_3, cv_6, cv_9] : List Int32)))]) _
              refine XS.icmpNo X65.here hx rfl (hb hby at_220) rfl (teq ((own_r4 cv_1 cv_3 cv_6 cv_9).trans (by simp [hc182, hc189, hc196, hc203]) : (own_res ([cv_1, cv_3, cv_6, cv_9] : List Int32)) = (0 : Int32))).2 ?_
              show SS p e below T65 (mkF m 223 #[vi p0, vl q1, us, vi (4 : Int32), vi vK, vi vM, vi cv_1, vi cv_3, vi cv_6, vi cv_9, vi cv_12, vi cv_15, vr nx_55, vi (0 : Int32)] []) _
              refine XS.iconst X65.here hx rfl (hb hby at_223) ?_
              show SS p e below T65 (mkF m 224 #[vi p0, vl q1, us, vi (4 : Int32), vi vK, vi vM, vi cv_1, vi cv_3, vi cv_6, vi cv_9, vi cv_12, vi cv_15, vr nx_55, vi (0 : Int32)] [(.int (1 : Int32))]) _
              refine XS.goto X65.here hx rfl (pc0 := 224) (pc' := 228) rfl (hb hby at_224) (by decide) (by decide) ?_
              show SS p e below T65 (mkF m 228 #[vi p0, vl q1, us, vi (4 : Int32), vi vK, vi vM, vi cv_1, vi cv_3, vi cv_6, vi cv_9, vi cv_12, vi cv_15, vr nx_55, vi (0 : Int32)] [(.int (1 : Int32))]) _
              exact retN X65 hx (t := .boolean) Bd.returns (by simp) (hb hby at_228) hr
            · show Q_rm0 Z p0 q1 zc fm (4 : Int32) vK vM h0 n0 _ T65.heap _
              exact ⟨rfl, N65⟩
        · have c69 := (c56.keep Kq55 all0)
          obtain ⟨_, _, ⟨T68, Lw68, kw68, nw68⟩, -, X68', hS68', hg68, ⟨Lc68, hQ68, lq68, yq68, zq68, CH68⟩, st68⟩ := callSS X55 hx (y := (⟨"com/example/wireform/wireform/json/Json", "isReserved", "(Ljava/lang/String;)Z"⟩ : MethodName)) hown55 (mvT hZ55 (wd hw 70 rfl)) (mvT hZ55 (wd hw 71 rfl)) (mvT hZ55 (wd hw 72 rfl)) (mvT hZ55 (wd hw 73 rfl)) (by decide) (backOfSH (W := 0) (rmR l Z a0 hw [] nx_55 zc fm nt_55 nk_55 ([cv_1, cv_3, cv_6, cv_9] : List Int32) T55.heap n0 Z55 c69 uS uF uP uR f55_0 f55_1 f55_2 f55_3 (own_all4 f1_0 f3_0 f6_0 f9_0) (Nat.le_of_ble_eq_true rfl)) hZ55 (wd hw 73 rfl) (wd hw 72 rfl) (by decide) (by decide) (own_EW hw) hCe57) (g := (mkF m 215 #[vi p0, vl q1, us, vi (4 : Int32), vi vK, vi vM, vi cv_1, vi cv_3, vi cv_6, vi cv_9, vi cv_12, vi cv_15, vr nx_55, vi (0 : Int32)] [(.ref nx_55)])) rfl (by rw [hml]; rfl) (argsL := [(.ref nx_55)]) (rest := []) (lenOf pd_9 rfl) rfl (by show 2 * 0 + _ ≤ _; exact Nat.le_of_eq rfl) (hb hby at_215) (fun _ _ => ⟨rfl, rfl, (by decide : 15 + 6 ≤ _), (by decide : 156 + 60 ≤ _)⟩)
          dsimp only [Pt.U, Pt.locs, Pt.cells, Pt.slots] at X68' hS68' hg68 lq68 yq68 zq68 st68 hQ68 CH68
          have X68' := own_reb X68' lq68 yq68 zq68
          obtain ⟨X68, hS68, hZ68, hown68⟩ := rebS hS55 (own_hk rfl hk55) X68' hS68' hg68 hZ55 hown55
          obtain ⟨rfl, Nq68, Kq68⟩ := hQ68
          have N68 := Fr.app N55 Nq68
          have Re70 := Re57.trans CH68
          have hCe70 := Re70.1
          have K68 : Keep h0 T68.heap [] := K55.trans Kq68 all0
          have Z68 : n0 ≤ T68.heap.size := Nat.le_trans Z55 Kq68.1
          have hk68 : T68.heap.size ≤ T68.heap.size := Nat.le_refl _
          obtain ⟨fs, hr, hrun, hended, en1, en2, en3, en4⟩ := X68.leaveW hS68 (own_hk rfl hk68) (v := some (.int (nar .boolean (1 : Int32)))) (fun h => by rw [Bd.returns] at h; cases h)
          refine ⟨_, _, pre0 _ ?_, hrun, hended, _, _, rfl, ?_, own_chr (T := T68) hh rfl (Re70.trans (CHv.at X68 hZ68 (own_EW hw) hCe70)), en1, en2, en3, en4.mono (by decide) (by decide)⟩
          · refine sg18 _ ?_
            refine sg58 _ ?_
            refine sg59 _ ?_
            refine sg60 _ ?_
            show SS p e below T55 (mkF m 196 #[vi p0, vl q1, us, vi (4 : Int32), vi vK, vi vM, vi cv_1, vi cv_3, vi cv_6, vi cv_9, vi cv_12, vi cv_15, vr nx_55, uu] [(.int (101 : Int32)), (.int cv_6)]) _
            refine XS.icmpYes X55.here hx rfl (pc0 := 196) (pc' := 210) rfl (hb hby at_196) rfl (feq (hc196 : ¬ (cv_6 = (101 : Int32)))).2 (by decide) (by decide) ?_
            show SS p e below T55 (mkF m 210 #[vi p0, vl q1, us, vi (4 : Int32), vi vK, vi vM, vi cv_1, vi cv_3, vi cv_6, vi cv_9, vi cv_12, vi cv_15, vr nx_55, uu] []) _
            refine XS.iconst X55.here hx rfl (hb hby at_210) ?_
            show SS p e below T55 (mkF m 211 #[vi p0, vl q1, us, vi (4 : Int32), vi vK, vi vM, vi cv_1, vi cv_3, vi cv_6, vi cv_9, vi cv_12, vi cv_15, vr nx_55, uu] [(.int (0 : Int32))]) _
            refine XS.istore X55.here hx rfl (hb hby at_211) rfl (l' := #[vi p0, vl q1, us, vi (4 : Int32), vi vK, vi vM, vi cv_1, vi cv_3, vi cv_6, vi cv_9, vi cv_12, vi cv_15, vr nx_55, vi (0 : Int32)]) rfl ?_
            show SS p e below T55 (mkF m 213 #[vi p0, vl q1, us, vi (4 : Int32), vi vK, vi vM, vi cv_1, vi cv_3, vi cv_6, vi cv_9, vi cv_12, vi cv_15, vr nx_55, vi (0 : Int32)] []) _
            refine XS.aload X55.here hx rfl (hb hby at_213) rfl rfl ?_
            show SS p e below T55 (mkF m 215 #[vi p0, vl q1, us, vi (4 : Int32), vi vK, vi vM, vi cv_1, vi cv_3, vi cv_6, vi cv_9, vi cv_12, vi cv_15, vr nx_55, vi (0 : Int32)] [(.ref nx_55)]) _
            refine st68.trans ?_
            show SS p e below T68 (mkF m 218 #[vi p0, vl q1, us, vi (4 : Int32), vi vK, vi vM, vi cv_1, vi cv_3, vi cv_6, vi cv_9, vi cv_12, vi cv_15, vr nx_55, vi (0 : Int32)] [(.int (own_res ([cv_1, cv_3, cv_6, cv_9] : List Int32)))]) _
            refine XS.iload X68.here hx rfl (hb hby at_218) rfl ?_
            show SS p e below T68 (mkF m 220 #[vi p0, vl q1, us, vi (4 : Int32), vi vK, vi vM, vi cv_1, vi cv_3, vi cv_6, vi cv_9, vi cv_12, vi cv_15, vr nx_55, vi (0 : Int32)] [(.int (0 : Int32)), (.int (own_res ([cv_1, cv_3, cv_6, cv_9] : List Int32)))]) _
            refine XS.icmpNo X68.here hx rfl (hb hby at_220) rfl (teq ((own_r4 cv_1 cv_3 cv_6 cv_9).trans (by simp [hc182, hc189, hc196]) : (own_res ([cv_1, cv_3, cv_6, cv_9] : List Int32)) = (0 : Int32))).2 ?_
            show SS p e below T68 (mkF m 223 #[vi p0, vl q1, us, vi (4 : Int32), vi vK, vi vM, vi cv_1, vi cv_3, vi cv_6, vi cv_9, vi cv_12, vi cv_15, vr nx_55, vi (0 : Int32)] []) _
            refine XS.iconst X68.here hx rfl (hb hby at_223) ?_
            show SS p e below T68 (mkF m 224 #[vi p0, vl q1, us, vi (4 : Int32), vi vK, vi vM, vi cv_1, vi cv_3, vi cv_6, vi cv_9, vi cv_12, vi cv_15, vr nx_55, vi (0 : Int32)] [(.int (1 : Int32))]) _
            refine XS.goto X68.here hx rfl (pc0 := 224) (pc' := 228) rfl (hb hby at_224) (by decide) (by decide) ?_
            show SS p e below T68 (mkF m 228 #[vi p0, vl q1, us, vi (4 : Int32), vi vK, vi vM, vi cv_1, vi cv_3, vi cv_6, vi cv_9, vi cv_12, vi cv_15, vr nx_55, vi (0 : Int32)] [(.int (1 : Int32))]) _
            exact retN X68 hx (t := .boolean) Bd.returns (by simp) (hb hby at_228) hr
          · show Q_rm0 Z p0 q1 zc fm (4 : Int32) vK vM h0 n0 _ T68.heap _
            exact ⟨rfl, N68⟩
      · have c72 := (c56.keep Kq55 all0)
        obtain ⟨_, _, ⟨T71, Lw71, kw71, nw71⟩, -, X71', hS71', hg71, ⟨Lc71, hQ71, lq71, yq71, zq71, CH71⟩, st71⟩ := callSS X55 hx (y := (⟨"com/example/wireform/wireform/json/Json", "isReserved", "(Ljava/lang/String;)Z"⟩ : MethodName)) hown55 (mvT hZ55 (wd hw 70 rfl)) (mvT hZ55 (wd hw 71 rfl)) (mvT hZ55 (wd hw 72 rfl)) (mvT hZ55 (wd hw 73 rfl)) (by decide) (backOfSH (W := 0) (rmR l Z a0 hw [] nx_55 zc fm nt_55 nk_55 ([cv_1, cv_3, cv_6, cv_9] : List Int32) T55.heap n0 Z55 c72 uS uF uP uR f55_0 f55_1 f55_2 f55_3 (own_all4 f1_0 f3_0 f6_0 f9_0) (Nat.le_of_ble_eq_true rfl)) hZ55 (wd hw 73 rfl) (wd hw 72 rfl) (by decide) (by decide) (own_EW hw) hCe57) (g := (mkF m 215 #[vi p0, vl q1, us, vi (4 : Int32), vi vK, vi vM, vi cv_1, vi cv_3, vi cv_6, vi cv_9, vi cv_12, vi cv_15, vr nx_55, vi (0 : Int32)] [(.ref nx_55)])) rfl (by rw [hml]; rfl) (argsL := [(.ref nx_55)]) (rest := []) (lenOf pd_9 rfl) rfl (by show 2 * 0 + _ ≤ _; exact Nat.le_of_eq rfl) (hb hby at_215) (fun _ _ => ⟨rfl, rfl, (by decide : 15 + 6 ≤ _), (by decide : 156 + 60 ≤ _)⟩)
        dsimp only [Pt.U, Pt.locs, Pt.cells, Pt.slots] at X71' hS71' hg71 lq71 yq71 zq71 st71 hQ71 CH71
        have X71' := own_reb X71' lq71 yq71 zq71
        obtain ⟨X71, hS71, hZ71, hown71⟩ := rebS hS55 (own_hk rfl hk55) X71' hS71' hg71 hZ55 hown55
        obtain ⟨rfl, Nq71, Kq71⟩ := hQ71
        have N71 := Fr.app N55 Nq71
        have Re73 := Re57.trans CH71
        have hCe73 := Re73.1
        have K71 : Keep h0 T71.heap [] := K55.trans Kq71 all0
        have Z71 : n0 ≤ T71.heap.size := Nat.le_trans Z55 Kq71.1
        have hk71 : T71.heap.size ≤ T71.heap.size := Nat.le_refl _
        obtain ⟨fs, hr, hrun, hended, en1, en2, en3, en4⟩ := X71.leaveW hS71 (own_hk rfl hk71) (v := some (.int (nar .boolean (1 : Int32)))) (fun h => by rw [Bd.returns] at h; cases h)
        refine ⟨_, _, pre0 _ ?_, hrun, hended, _, _, rfl, ?_, own_chr (T := T71) hh rfl (Re73.trans (CHv.at X71 hZ71 (own_EW hw) hCe73)), en1, en2, en3, en4.mono (by decide) (by decide)⟩
        · refine sg18 _ ?_
          refine sg58 _ ?_
          refine sg59 _ ?_
          show SS p e below T55 (mkF m 189 #[vi p0, vl q1, us, vi (4 : Int32), vi vK, vi vM, vi cv_1, vi cv_3, vi cv_6, vi cv_9, vi cv_12, vi cv_15, vr nx_55, uu] [(.int (114 : Int32)), (.int cv_3)]) _
          refine XS.icmpYes X55.here hx rfl (pc0 := 189) (pc' := 210) rfl (hb hby at_189) rfl (feq (hc189 : ¬ (cv_3 = (114 : Int32)))).2 (by decide) (by decide) ?_
          show SS p e below T55 (mkF m 210 #[vi p0, vl q1, us, vi (4 : Int32), vi vK, vi vM, vi cv_1, vi cv_3, vi cv_6, vi cv_9, vi cv_12, vi cv_15, vr nx_55, uu] []) _
          refine XS.iconst X55.here hx rfl (hb hby at_210) ?_
          show SS p e below T55 (mkF m 211 #[vi p0, vl q1, us, vi (4 : Int32), vi vK, vi vM, vi cv_1, vi cv_3, vi cv_6, vi cv_9, vi cv_12, vi cv_15, vr nx_55, uu] [(.int (0 : Int32))]) _
          refine XS.istore X55.here hx rfl (hb hby at_211) rfl (l' := #[vi p0, vl q1, us, vi (4 : Int32), vi vK, vi vM, vi cv_1, vi cv_3, vi cv_6, vi cv_9, vi cv_12, vi cv_15, vr nx_55, vi (0 : Int32)]) rfl ?_
          show SS p e below T55 (mkF m 213 #[vi p0, vl q1, us, vi (4 : Int32), vi vK, vi vM, vi cv_1, vi cv_3, vi cv_6, vi cv_9, vi cv_12, vi cv_15, vr nx_55, vi (0 : Int32)] []) _
          refine XS.aload X55.here hx rfl (hb hby at_213) rfl rfl ?_
          show SS p e below T55 (mkF m 215 #[vi p0, vl q1, us, vi (4 : Int32), vi vK, vi vM, vi cv_1, vi cv_3, vi cv_6, vi cv_9, vi cv_12, vi cv_15, vr nx_55, vi (0 : Int32)] [(.ref nx_55)]) _
          refine st71.trans ?_
          show SS p e below T71 (mkF m 218 #[vi p0, vl q1, us, vi (4 : Int32), vi vK, vi vM, vi cv_1, vi cv_3, vi cv_6, vi cv_9, vi cv_12, vi cv_15, vr nx_55, vi (0 : Int32)] [(.int (own_res ([cv_1, cv_3, cv_6, cv_9] : List Int32)))]) _
          refine XS.iload X71.here hx rfl (hb hby at_218) rfl ?_
          show SS p e below T71 (mkF m 220 #[vi p0, vl q1, us, vi (4 : Int32), vi vK, vi vM, vi cv_1, vi cv_3, vi cv_6, vi cv_9, vi cv_12, vi cv_15, vr nx_55, vi (0 : Int32)] [(.int (0 : Int32)), (.int (own_res ([cv_1, cv_3, cv_6, cv_9] : List Int32)))]) _
          refine XS.icmpNo X71.here hx rfl (hb hby at_220) rfl (teq ((own_r4 cv_1 cv_3 cv_6 cv_9).trans (by simp [hc182, hc189]) : (own_res ([cv_1, cv_3, cv_6, cv_9] : List Int32)) = (0 : Int32))).2 ?_
          show SS p e below T71 (mkF m 223 #[vi p0, vl q1, us, vi (4 : Int32), vi vK, vi vM, vi cv_1, vi cv_3, vi cv_6, vi cv_9, vi cv_12, vi cv_15, vr nx_55, vi (0 : Int32)] []) _
          refine XS.iconst X71.here hx rfl (hb hby at_223) ?_
          show SS p e below T71 (mkF m 224 #[vi p0, vl q1, us, vi (4 : Int32), vi vK, vi vM, vi cv_1, vi cv_3, vi cv_6, vi cv_9, vi cv_12, vi cv_15, vr nx_55, vi (0 : Int32)] [(.int (1 : Int32))]) _
          refine XS.goto X71.here hx rfl (pc0 := 224) (pc' := 228) rfl (hb hby at_224) (by decide) (by decide) ?_
          show SS p e below T71 (mkF m 228 #[vi p0, vl q1, us, vi (4 : Int32), vi vK, vi vM, vi cv_1, vi cv_3, vi cv_6, vi cv_9, vi cv_12, vi cv_15, vr nx_55, vi (0 : Int32)] [(.int (1 : Int32))]) _
          exact retN X71 hx (t := .boolean) Bd.returns (by simp) (hb hby at_228) hr
        · show Q_rm0 Z p0 q1 zc fm (4 : Int32) vK vM h0 n0 _ T71.heap _
          exact ⟨rfl, N71⟩
    · have c75 := (c56.keep Kq55 all0)
      obtain ⟨_, _, ⟨T74, Lw74, kw74, nw74⟩, -, X74', hS74', hg74, ⟨Lc74, hQ74, lq74, yq74, zq74, CH74⟩, st74⟩ := callSS X55 hx (y := (⟨"com/example/wireform/wireform/json/Json", "isReserved", "(Ljava/lang/String;)Z"⟩ : MethodName)) hown55 (mvT hZ55 (wd hw 70 rfl)) (mvT hZ55 (wd hw 71 rfl)) (mvT hZ55 (wd hw 72 rfl)) (mvT hZ55 (wd hw 73 rfl)) (by decide) (backOfSH (W := 0) (rmR l Z a0 hw [] nx_55 zc fm nt_55 nk_55 ([cv_1, cv_3, cv_6, cv_9] : List Int32) T55.heap n0 Z55 c75 uS uF uP uR f55_0 f55_1 f55_2 f55_3 (own_all4 f1_0 f3_0 f6_0 f9_0) (Nat.le_of_ble_eq_true rfl)) hZ55 (wd hw 73 rfl) (wd hw 72 rfl) (by decide) (by decide) (own_EW hw) hCe57) (g := (mkF m 215 #[vi p0, vl q1, us, vi (4 : Int32), vi vK, vi vM, vi cv_1, vi cv_3, vi cv_6, vi cv_9, vi cv_12, vi cv_15, vr nx_55, vi (0 : Int32)] [(.ref nx_55)])) rfl (by rw [hml]; rfl) (argsL := [(.ref nx_55)]) (rest := []) (lenOf pd_9 rfl) rfl (by show 2 * 0 + _ ≤ _; exact Nat.le_of_eq rfl) (hb hby at_215) (fun _ _ => ⟨rfl, rfl, (by decide : 15 + 6 ≤ _), (by decide : 156 + 60 ≤ _)⟩)
      dsimp only [Pt.U, Pt.locs, Pt.cells, Pt.slots] at X74' hS74' hg74 lq74 yq74 zq74 st74 hQ74 CH74
      have X74' := own_reb X74' lq74 yq74 zq74
      obtain ⟨X74, hS74, hZ74, hown74⟩ := rebS hS55 (own_hk rfl hk55) X74' hS74' hg74 hZ55 hown55
      obtain ⟨rfl, Nq74, Kq74⟩ := hQ74
      have N74 := Fr.app N55 Nq74
      have Re76 := Re57.trans CH74
      have hCe76 := Re76.1
      have K74 : Keep h0 T74.heap [] := K55.trans Kq74 all0
      have Z74 : n0 ≤ T74.heap.size := Nat.le_trans Z55 Kq74.1
      have hk74 : T74.heap.size ≤ T74.heap.size := Nat.le_refl _
      obtain ⟨fs, hr, hrun, hended, en1, en2, en3, en4⟩ := X74.leaveW hS74 (own_hk rfl hk74) (v := some (.int (nar .boolean (1 : Int32)))) (fun h => by rw [Bd.returns] at h; cases h)
      refine ⟨_, _, pre0 _ ?_, hrun, hended, _, _, rfl, ?_, own_chr (T := T74) hh rfl (Re76.trans (CHv.at X74 hZ74 (own_EW hw) hCe76)), en1, en2, en3, en4.mono (by decide) (by decide)⟩
      · refine sg18 _ ?_
        refine sg58 _ ?_
        show SS p e below T55 (mkF m 182 #[vi p0, vl q1, us, vi (4 : Int32), vi vK, vi vM, vi cv_1, vi cv_3, vi cv_6, vi cv_9, vi cv_12, vi cv_15, vr nx_55, uu] [(.int (64 : Int32)), (.int cv_1)]) _
        refine XS.icmpYes X55.here hx rfl (pc0 := 182) (pc' := 210) rfl (hb hby at_182) rfl (feq (hc182 : ¬ (cv_1 = (64 : Int32)))).2 (by decide) (by decide) ?_
        show SS p e below T55 (mkF m 210 #[vi p0, vl q1, us, vi (4 : Int32), vi vK, vi vM, vi cv_1, vi cv_3, vi cv_6, vi cv_9, vi cv_12, vi cv_15, vr nx_55, uu] []) _
        refine XS.iconst X55.here hx rfl (hb hby at_210) ?_
        show SS p e below T55 (mkF m 211 #[vi p0, vl q1, us, vi (4 : Int32), vi vK, vi vM, vi cv_1, vi cv_3, vi cv_6, vi cv_9, vi cv_12, vi cv_15, vr nx_55, uu] [(.int (0 : Int32))]) _
        refine XS.istore X55.here hx rfl (hb hby at_211) rfl (l' := #[vi p0, vl q1, us, vi (4 : Int32), vi vK, vi vM, vi cv_1, vi cv_3, vi cv_6, vi cv_9, vi cv_12, vi cv_15, vr nx_55, vi (0 : Int32)]) rfl ?_
        show SS p e below T55 (mkF m 213 #[vi p0, vl q1, us, vi (4 : Int32), vi vK, vi vM, vi cv_1, vi cv_3, vi cv_6, vi cv_9, vi cv_12, vi cv_15, vr nx_55, vi (0 : Int32)] []) _
        refine XS.aload X55.here hx rfl (hb hby at_213) rfl rfl ?_
        show SS p e below T55 (mkF m 215 #[vi p0, vl q1, us, vi (4 : Int32), vi vK, vi vM, vi cv_1, vi cv_3, vi cv_6, vi cv_9, vi cv_12, vi cv_15, vr nx_55, vi (0 : Int32)] [(.ref nx_55)]) _
        refine st74.trans ?_
        show SS p e below T74 (mkF m 218 #[vi p0, vl q1, us, vi (4 : Int32), vi vK, vi vM, vi cv_1, vi cv_3, vi cv_6, vi cv_9, vi cv_12, vi cv_15, vr nx_55, vi (0 : Int32)] [(.int (own_res ([cv_1, cv_3, cv_6, cv_9] : List Int32)))]) _
        refine XS.iload X74.here hx rfl (hb hby at_218) rfl ?_
        show SS p e below T74 (mkF m 220 #[vi p0, vl q1, us, vi (4 : Int32), vi vK, vi vM, vi cv_1, vi cv_3, vi cv_6, vi cv_9, vi cv_12, vi cv_15, vr nx_55, vi (0 : Int32)] [(.int (0 : Int32)), (.int (own_res ([cv_1, cv_3, cv_6, cv_9] : List Int32)))]) _
        refine XS.icmpNo X74.here hx rfl (hb hby at_220) rfl (teq ((own_r4 cv_1 cv_3 cv_6 cv_9).trans (by simp [hc182]) : (own_res ([cv_1, cv_3, cv_6, cv_9] : List Int32)) = (0 : Int32))).2 ?_
        show SS p e below T74 (mkF m 223 #[vi p0, vl q1, us, vi (4 : Int32), vi vK, vi vM, vi cv_1, vi cv_3, vi cv_6, vi cv_9, vi cv_12, vi cv_15, vr nx_55, vi (0 : Int32)] []) _
        refine XS.iconst X74.here hx rfl (hb hby at_223) ?_
        show SS p e below T74 (mkF m 224 #[vi p0, vl q1, us, vi (4 : Int32), vi vK, vi vM, vi cv_1, vi cv_3, vi cv_6, vi cv_9, vi cv_12, vi cv_15, vr nx_55, vi (0 : Int32)] [(.int (1 : Int32))]) _
        refine XS.goto X74.here hx rfl (pc0 := 224) (pc' := 228) rfl (hb hby at_224) (by decide) (by decide) ?_
        show SS p e below T74 (mkF m 228 #[vi p0, vl q1, us, vi (4 : Int32), vi vK, vi vM, vi cv_1, vi cv_3, vi cv_6, vi cv_9, vi cv_12, vi cv_15, vr nx_55, vi (0 : Int32)] [(.int (1 : Int32))]) _
        exact retN X74 hx (t := .boolean) Bd.returns (by simp) (hb hby at_228) hr
      · show Q_rm0 Z p0 q1 zc fm (4 : Int32) vK vM h0 n0 _ T74.heap _
        exact ⟨rfl, N74⟩
  · have c78 := (c16.keep Kq15 all0)
    obtain ⟨_, _, ⟨T77, Lw77, kw77, nw77⟩, -, X77', hS77', hg77, ⟨Lc77, hQ77, lq77, yq77, zq77, CH77⟩, st77⟩ := callSS X15 hx (y := (⟨"com/example/wireform/wireform/json/JsonIsReservedPinLaw", "make", "(ICCCCCC)Ljava/lang/String;"⟩ : MethodName)) hown15 (mvT hZ15 (wd hw 54 rfl)) (mvT hZ15 (wd hw 55 rfl)) (mvT hZ15 (wd hw 2 rfl)) (mvT hZ15 (wd hw 56 rfl)) (by decide) (backOfSH (W := 0) (rmM5 l Z a0 hw [] cv_1 cv_3 cv_6 cv_9 cv_12 cv_15 zc fm T15.heap n0 Z15 c78 uS uF uP uR f1_0 f3_0 f6_0 f9_0 f12_0 f15_0) hZ15 (wd hw 56 rfl) (wd hw 2 rfl) (by decide) (by decide) (own_EW hw) hCe17) (g := (mkF m 102 #[vi p0, vl q1, us, vi (5 : Int32), vi vK, vi vM, vi cv_1, vi cv_3, vi cv_6, vi cv_9, vi cv_12, vi cv_15, uu, uu] [(.int cv_15), (.int cv_12), (.int cv_9), (.int cv_6), (.int cv_3), (.int cv_1), (.int (5 : Int32))])) rfl (by rw [hml]; rfl) (argsL := [(.int (5 : Int32)), (.int cv_1), (.int cv_3), (.int cv_6), (.int cv_9), (.int cv_12), (.int cv_15)]) (rest := []) (lenOf pd_8 rfl) rfl (by show 2 * 0 + _ ≤ _; exact Nat.le_of_eq rfl) (hb hby at_102) (fun _ _ => ⟨rfl, rfl, (by decide : 12 + 3 ≤ _), (by decide : 144 + 14 ≤ _)⟩)
    dsimp only [Pt.U, Pt.locs, Pt.cells, Pt.slots] at X77' hS77' hg77 lq77 yq77 zq77 st77 hQ77 CH77
    have X77' := own_reb X77' lq77 yq77 zq77
    obtain ⟨X77, hS77, hZ77, hown77⟩ := rebS hS15 (own_hk rfl hk15) X77' hS77' hg77 hZ15 hown15
    obtain ⟨nx_77, nt_77, nk_77, rfl, Nq77, Kq77, f77_0, f77_1, f77_2, f77_3⟩ := hQ77
    have N77 := Fr.app N15 Nq77
    have Re79 := Re17.trans CH77
    have hCe79 := Re79.1
    have K77 : Keep h0 T77.heap [] := K15.trans Kq77 all0
    have Z77 : n0 ≤ T77.heap.size := Nat.le_trans Z15 Kq77.1
    have hk77 : T77.heap.size ≤ T77.heap.size := Nat.le_refl _
    have sg80 : ∀ target, SS p e below T77 (mkF m 116 #[vi p0, vl q1, us, vi (5 : Int32), vi vK, vi vM, vi cv_1, vi cv_3, vi cv_6, vi cv_9, vi cv_12, vi cv_15, vr nx_77, uu] [(.int (64 : Int32)), (.int cv_1)]) target → SS p e below T15 (mkF m 102 #[vi p0, vl q1, us, vi (5 : Int32), vi vK, vi vM, vi cv_1, vi cv_3, vi cv_6, vi cv_9, vi cv_12, vi cv_15, uu, uu] [(.int cv_15), (.int cv_12), (.int cv_9), (.int cv_6), (.int cv_3), (.int cv_1), (.int (5 : Int32))]) target := by
      intro target kt
      show SS p e below T15 (mkF m 102 #[vi p0, vl q1, us, vi (5 : Int32), vi vK, vi vM, vi cv_1, vi cv_3, vi cv_6, vi cv_9, vi cv_12, vi cv_15, uu, uu] [(.int cv_15), (.int cv_12), (.int cv_9), (.int cv_6), (.int cv_3), (.int cv_1), (.int (5 : Int32))]) _
      refine st77.trans ?_
      show SS p e below T77 (mkF m 105 #[vi p0, vl q1, us, vi (5 : Int32), vi vK, vi vM, vi cv_1, vi cv_3, vi cv_6, vi cv_9, vi cv_12, vi cv_15, uu, uu] [(.ref nx_77)]) _
      refine XS.astore X77.here hx rfl (hb hby at_105) rfl rfl (l' := #[vi p0, vl q1, us, vi (5 : Int32), vi vK, vi vM, vi cv_1, vi cv_3, vi cv_6, vi cv_9, vi cv_12, vi cv_15, vr nx_77, uu]) rfl ?_
      show SS p e below T77 (mkF m 107 #[vi p0, vl q1, us, vi (5 : Int32), vi vK, vi vM, vi cv_1, vi cv_3, vi cv_6, vi cv_9, vi cv_12, vi cv_15, vr nx_77, uu] []) _
      refine XS.iloadN X77.here hx rfl (hb hby at_107) rfl ?_
      show SS p e below T77 (mkF m 108 #[vi p0, vl q1, us, vi (5 : Int32), vi vK, vi vM, vi cv_1, vi cv_3, vi cv_6, vi cv_9, vi cv_12, vi cv_15, vr nx_77, uu] [(.int (5 : Int32))]) _
      refine XS.iconst X77.here hx rfl (hb hby at_108) ?_
      show SS p e below T77 (mkF m 109 #[vi p0, vl q1, us, vi (5 : Int32), vi vK, vi vM, vi cv_1, vi cv_3, vi cv_6, vi cv_9, vi cv_12, vi cv_15, vr nx_77, uu] [(.int (5 : Int32)), (.int (5 : Int32))]) _
      refine XS.icmpNo X77.here hx rfl (hb hby at_109) rfl (teq (by decide : (5 : Int32) = (5 : Int32))).2 ?_
      show SS p e below T77 (mkF m 112 #[vi p0, vl q1, us, vi (5 : Int32), vi vK, vi vM, vi cv_1, vi cv_3, vi cv_6, vi cv_9, vi cv_12, vi cv_15, vr nx_77, uu] []) _
      refine XS.iload X77.here hx rfl (hb hby at_112) rfl ?_
      show SS p e below T77 (mkF m 114 #[vi p0, vl q1, us, vi (5 : Int32), vi vK, vi vM, vi cv_1, vi cv_3, vi cv_6, vi cv_9, vi cv_12, vi cv_15, vr nx_77, uu] [(.int cv_1)]) _
      refine XS.bipush X77.here hx rfl (hb hby at_114) ?_
      exact kt
    by_cases hc116 : cv_1 = (64 : Int32)
    · have sg81 : ∀ target, SS p e below T77 (mkF m 123 #[vi p0, vl q1, us, vi (5 : Int32), vi vK, vi vM, vi cv_1, vi cv_3, vi cv_6, vi cv_9, vi cv_12, vi cv_15, vr nx_77, uu] [(.int (116 : Int32)), (.int cv_3)]) target → SS p e below T77 (mkF m 116 #[vi p0, vl q1, us, vi (5 : Int32), vi vK, vi vM, vi cv_1, vi cv_3, vi cv_6, vi cv_9, vi cv_12, vi cv_15, vr nx_77, uu] [(.int (64 : Int32)), (.int cv_1)]) target := by
        intro target kt
        show SS p e below T77 (mkF m 116 #[vi p0, vl q1, us, vi (5 : Int32), vi vK, vi vM, vi cv_1, vi cv_3, vi cv_6, vi cv_9, vi cv_12, vi cv_15, vr nx_77, uu] [(.int (64 : Int32)), (.int cv_1)]) _
        refine XS.icmpNo X77.here hx rfl (hb hby at_116) rfl (teq (hc116 : cv_1 = (64 : Int32))).2 ?_
        show SS p e below T77 (mkF m 119 #[vi p0, vl q1, us, vi (5 : Int32), vi vK, vi vM, vi cv_1, vi cv_3, vi cv_6, vi cv_9, vi cv_12, vi cv_15, vr nx_77, uu] []) _
        refine XS.iload X77.here hx rfl (hb hby at_119) rfl ?_
        show SS p e below T77 (mkF m 121 #[vi p0, vl q1, us, vi (5 : Int32), vi vK, vi vM, vi cv_1, vi cv_3, vi cv_6, vi cv_9, vi cv_12, vi cv_15, vr nx_77, uu] [(.int cv_3)]) _
        refine XS.bipush X77.here hx rfl (hb hby at_121) ?_
        exact kt
      by_cases hc123 : cv_3 = (116 : Int32)
      · have sg82 : ∀ target, SS p e below T77 (mkF m 130 #[vi p0, vl q1, us, vi (5 : Int32), vi vK, vi vM, vi cv_1, vi cv_3, vi cv_6, vi cv_9, vi cv_12, vi cv_15, vr nx_77, uu] [(.int (121 : Int32)), (.int cv_6)]) target → SS p e below T77 (mkF m 123 #[vi p0, vl q1, us, vi (5 : Int32), vi vK, vi vM, vi cv_1, vi cv_3, vi cv_6, vi cv_9, vi cv_12, vi cv_15, vr nx_77, uu] [(.int (116 : Int32)), (.int cv_3)]) target := by
          intro target kt
          show SS p e below T77 (mkF m 123 #[vi p0, vl q1, us, vi (5 : Int32), vi vK, vi vM, vi cv_1, vi cv_3, vi cv_6, vi cv_9, vi cv_12, vi cv_15, vr nx_77, uu] [(.int (116 : Int32)), (.int cv_3)]) _
          refine XS.icmpNo X77.here hx rfl (hb hby at_123) rfl (teq (hc123 : cv_3 = (116 : Int32))).2 ?_
          show SS p e below T77 (mkF m 126 #[vi p0, vl q1, us, vi (5 : Int32), vi vK, vi vM, vi cv_1, vi cv_3, vi cv_6, vi cv_9, vi cv_12, vi cv_15, vr nx_77, uu] []) _
          refine XS.iload X77.here hx rfl (hb hby at_126) rfl ?_
          show SS p e below T77 (mkF m 128 #[vi p0, vl q1, us, vi (5 : Int32), vi vK, vi vM, vi cv_1, vi cv_3, vi cv_6, vi cv_9, vi cv_12, vi cv_15, vr nx_77, uu] [(.int cv_6)]) _
          refine XS.bipush X77.here hx rfl (hb hby at_128) ?_
          exact kt
        by_cases hc130 : cv_6 = (121 : Int32)
        · have sg83 : ∀ target, SS p e below T77 (mkF m 137 #[vi p0, vl q1, us, vi (5 : Int32), vi vK, vi vM, vi cv_1, vi cv_3, vi cv_6, vi cv_9, vi cv_12, vi cv_15, vr nx_77, uu] [(.int (112 : Int32)), (.int cv_9)]) target → SS p e below T77 (mkF m 130 #[vi p0, vl q1, us, vi (5 : Int32), vi vK, vi vM, vi cv_1, vi cv_3, vi cv_6, vi cv_9, vi cv_12, vi cv_15, vr nx_77, uu] [(.int (121 : Int32)), (.int cv_6)]) target := by
            intro target kt
            show SS p e below T77 (mkF m 130 #[vi p0, vl q1, us, vi (5 : Int32), vi vK, vi vM, vi cv_1, vi cv_3, vi cv_6, vi cv_9, vi cv_12, vi cv_15, vr nx_77, uu] [(.int (121 : Int32)), (.int cv_6)]) _
            refine XS.icmpNo X77.here hx rfl (hb hby at_130) rfl (teq (hc130 : cv_6 = (121 : Int32))).2 ?_
            show SS p e below T77 (mkF m 133 #[vi p0, vl q1, us, vi (5 : Int32), vi vK, vi vM, vi cv_1, vi cv_3, vi cv_6, vi cv_9, vi cv_12, vi cv_15, vr nx_77, uu] []) _
            refine XS.iload X77.here hx rfl (hb hby at_133) rfl ?_
            show SS p e below T77 (mkF m 135 #[vi p0, vl q1, us, vi (5 : Int32), vi vK, vi vM, vi cv_1, vi cv_3, vi cv_6, vi cv_9, vi cv_12, vi cv_15, vr nx_77, uu] [(.int cv_9)]) _
            refine XS.bipush X77.here hx rfl (hb hby at_135) ?_
            exact kt
          by_cases hc137 : cv_9 = (112 : Int32)
          · have sg84 : ∀ target, SS p e below T77 (mkF m 144 #[vi p0, vl q1, us, vi (5 : Int32), vi vK, vi vM, vi cv_1, vi cv_3, vi cv_6, vi cv_9, vi cv_12, vi cv_15, vr nx_77, uu] [(.int (101 : Int32)), (.int cv_12)]) target → SS p e below T77 (mkF m 137 #[vi p0, vl q1, us, vi (5 : Int32), vi vK, vi vM, vi cv_1, vi cv_3, vi cv_6, vi cv_9, vi cv_12, vi cv_15, vr nx_77, uu] [(.int (112 : Int32)), (.int cv_9)]) target := by
              intro target kt
              show SS p e below T77 (mkF m 137 #[vi p0, vl q1, us, vi (5 : Int32), vi vK, vi vM, vi cv_1, vi cv_3, vi cv_6, vi cv_9, vi cv_12, vi cv_15, vr nx_77, uu] [(.int (112 : Int32)), (.int cv_9)]) _
              refine XS.icmpNo X77.here hx rfl (hb hby at_137) rfl (teq (hc137 : cv_9 = (112 : Int32))).2 ?_
              show SS p e below T77 (mkF m 140 #[vi p0, vl q1, us, vi (5 : Int32), vi vK, vi vM, vi cv_1, vi cv_3, vi cv_6, vi cv_9, vi cv_12, vi cv_15, vr nx_77, uu] []) _
              refine XS.iload X77.here hx rfl (hb hby at_140) rfl ?_
              show SS p e below T77 (mkF m 142 #[vi p0, vl q1, us, vi (5 : Int32), vi vK, vi vM, vi cv_1, vi cv_3, vi cv_6, vi cv_9, vi cv_12, vi cv_15, vr nx_77, uu] [(.int cv_12)]) _
              refine XS.bipush X77.here hx rfl (hb hby at_142) ?_
              exact kt
            by_cases hc144 : cv_12 = (101 : Int32)
            · have c86 := (c78.keep Kq77 all0)
              obtain ⟨_, _, ⟨T85, Lw85, kw85, nw85⟩, -, X85', hS85', hg85, ⟨Lc85, hQ85, lq85, yq85, zq85, CH85⟩, st85⟩ := callSS X77 hx (y := (⟨"com/example/wireform/wireform/json/Json", "isReserved", "(Ljava/lang/String;)Z"⟩ : MethodName)) hown77 (mvT hZ77 (wd hw 70 rfl)) (mvT hZ77 (wd hw 71 rfl)) (mvT hZ77 (wd hw 72 rfl)) (mvT hZ77 (wd hw 73 rfl)) (by decide) (backOfSH (W := 0) (rmR l Z a0 hw [] nx_77 zc fm nt_77 nk_77 ([cv_1, cv_3, cv_6, cv_9, cv_12] : List Int32) T77.heap n0 Z77 c86 uS uF uP uR f77_0 f77_1 f77_2 f77_3 (own_all5 f1_0 f3_0 f6_0 f9_0 f12_0) (Nat.le_of_ble_eq_true rfl)) hZ77 (wd hw 73 rfl) (wd hw 72 rfl) (by decide) (by decide) (own_EW hw) hCe79) (g := (mkF m 215 #[vi p0, vl q1, us, vi (5 : Int32), vi vK, vi vM, vi cv_1, vi cv_3, vi cv_6, vi cv_9, vi cv_12, vi cv_15, vr nx_77, vi (1 : Int32)] [(.ref nx_77)])) rfl (by rw [hml]; rfl) (argsL := [(.ref nx_77)]) (rest := []) (lenOf pd_9 rfl) rfl (by show 2 * 0 + _ ≤ _; exact Nat.le_of_eq rfl) (hb hby at_215) (fun _ _ => ⟨rfl, rfl, (by decide : 15 + 6 ≤ _), (by decide : 158 + 60 ≤ _)⟩)
              dsimp only [Pt.U, Pt.locs, Pt.cells, Pt.slots] at X85' hS85' hg85 lq85 yq85 zq85 st85 hQ85 CH85
              have X85' := own_reb X85' lq85 yq85 zq85
              obtain ⟨X85, hS85, hZ85, hown85⟩ := rebS hS77 (own_hk rfl hk77) X85' hS85' hg85 hZ77 hown77
              obtain ⟨rfl, Nq85, Kq85⟩ := hQ85
              have N85 := Fr.app N77 Nq85
              have Re87 := Re79.trans CH85
              have hCe87 := Re87.1
              have K85 : Keep h0 T85.heap [] := K77.trans Kq85 all0
              have Z85 : n0 ≤ T85.heap.size := Nat.le_trans Z77 Kq85.1
              have hk85 : T85.heap.size ≤ T85.heap.size := Nat.le_refl _
              obtain ⟨fs, hr, hrun, hended, en1, en2, en3, en4⟩ := X85.leaveW hS85 (own_hk rfl hk85) (v := some (.int (nar .boolean (1 : Int32)))) (fun h => by rw [Bd.returns] at h; cases h)
              refine ⟨_, _, pre0 _ ?_, hrun, hended, _, _, rfl, ?_, own_chr (T := T85) hh rfl (Re87.trans (CHv.at X85 hZ85 (own_EW hw) hCe87)), en1, en2, en3, en4.mono (by decide) (by decide)⟩
              · refine sg18 _ ?_
                refine sg80 _ ?_
                refine sg81 _ ?_
                refine sg82 _ ?_
                refine sg83 _ ?_
                refine sg84 _ ?_
                show SS p e below T77 (mkF m 144 #[vi p0, vl q1, us, vi (5 : Int32), vi vK, vi vM, vi cv_1, vi cv_3, vi cv_6, vi cv_9, vi cv_12, vi cv_15, vr nx_77, uu] [(.int (101 : Int32)), (.int cv_12)]) _
                refine XS.icmpYes X77.here hx rfl (pc0 := 144) (pc' := 206) rfl (hb hby at_144) rfl (teq (hc144 : cv_12 = (101 : Int32))).1 (by decide) (by decide) ?_
                show SS p e below T77 (mkF m 206 #[vi p0, vl q1, us, vi (5 : Int32), vi vK, vi vM, vi cv_1, vi cv_3, vi cv_6, vi cv_9, vi cv_12, vi cv_15, vr nx_77, uu] []) _
                refine XS.iconst X77.here hx rfl (hb hby at_206) ?_
                show SS p e below T77 (mkF m 207 #[vi p0, vl q1, us, vi (5 : Int32), vi vK, vi vM, vi cv_1, vi cv_3, vi cv_6, vi cv_9, vi cv_12, vi cv_15, vr nx_77, uu] [(.int (1 : Int32))]) _
                refine XS.goto X77.here hx rfl (pc0 := 207) (pc' := 211) rfl (hb hby at_207) (by decide) (by decide) ?_
                show SS p e below T77 (mkF m 211 #[vi p0, vl q1, us, vi (5 : Int32), vi vK, vi vM, vi cv_1, vi cv_3, vi cv_6, vi cv_9, vi cv_12, vi cv_15, vr nx_77, uu] [(.int (1 : Int32))]) _
                refine XS.istore X77.here hx rfl (hb hby at_211) rfl (l' := #[vi p0, vl q1, us, vi (5 : Int32), vi vK, vi vM, vi cv_1, vi cv_3, vi cv_6, vi cv_9, vi cv_12, vi cv_15, vr nx_77, vi (1 : Int32)]) rfl ?_
                show SS p e below T77 (mkF m 213 #[vi p0, vl q1, us, vi (5 : Int32), vi vK, vi vM, vi cv_1, vi cv_3, vi cv_6, vi cv_9, vi cv_12, vi cv_15, vr nx_77, vi (1 : Int32)] []) _
                refine XS.aload X77.here hx rfl (hb hby at_213) rfl rfl ?_
                show SS p e below T77 (mkF m 215 #[vi p0, vl q1, us, vi (5 : Int32), vi vK, vi vM, vi cv_1, vi cv_3, vi cv_6, vi cv_9, vi cv_12, vi cv_15, vr nx_77, vi (1 : Int32)] [(.ref nx_77)]) _
                refine st85.trans ?_
                show SS p e below T85 (mkF m 218 #[vi p0, vl q1, us, vi (5 : Int32), vi vK, vi vM, vi cv_1, vi cv_3, vi cv_6, vi cv_9, vi cv_12, vi cv_15, vr nx_77, vi (1 : Int32)] [(.int (own_res ([cv_1, cv_3, cv_6, cv_9, cv_12] : List Int32)))]) _
                refine XS.iload X85.here hx rfl (hb hby at_218) rfl ?_
                show SS p e below T85 (mkF m 220 #[vi p0, vl q1, us, vi (5 : Int32), vi vK, vi vM, vi cv_1, vi cv_3, vi cv_6, vi cv_9, vi cv_12, vi cv_15, vr nx_77, vi (1 : Int32)] [(.int (1 : Int32)), (.int (own_res ([cv_1, cv_3, cv_6, cv_9, cv_12] : List Int32)))]) _
                refine XS.icmpNo X85.here hx rfl (hb hby at_220) rfl (teq ((own_r5 cv_1 cv_3 cv_6 cv_9 cv_12).trans (by simp [hc116, hc123, hc130, hc137, hc144]) : (own_res ([cv_1, cv_3, cv_6, cv_9, cv_12] : List Int32)) = (1 : Int32))).2 ?_
                show SS p e below T85 (mkF m 223 #[vi p0, vl q1, us, vi (5 : Int32), vi vK, vi vM, vi cv_1, vi cv_3, vi cv_6, vi cv_9, vi cv_12, vi cv_15, vr nx_77, vi (1 : Int32)] []) _
                refine XS.iconst X85.here hx rfl (hb hby at_223) ?_
                show SS p e below T85 (mkF m 224 #[vi p0, vl q1, us, vi (5 : Int32), vi vK, vi vM, vi cv_1, vi cv_3, vi cv_6, vi cv_9, vi cv_12, vi cv_15, vr nx_77, vi (1 : Int32)] [(.int (1 : Int32))]) _
                refine XS.goto X85.here hx rfl (pc0 := 224) (pc' := 228) rfl (hb hby at_224) (by decide) (by decide) ?_
                show SS p e below T85 (mkF m 228 #[vi p0, vl q1, us, vi (5 : Int32), vi vK, vi vM, vi cv_1, vi cv_3, vi cv_6, vi cv_9, vi cv_12, vi cv_15, vr nx_77, vi (1 : Int32)] [(.int (1 : Int32))]) _
                exact retN X85 hx (t := .boolean) Bd.returns (by simp) (hb hby at_228) hr
              · show Q_rm0 Z p0 q1 zc fm (5 : Int32) vK vM h0 n0 _ T85.heap _
                exact ⟨rfl, N85⟩
            · have c89 := (c78.keep Kq77 all0)
              obtain ⟨_, _, ⟨T88, Lw88, kw88, nw88⟩, -, X88', hS88', hg88, ⟨Lc88, hQ88, lq88, yq88, zq88, CH88⟩, st88⟩ := callSS X77 hx (y := (⟨"com/example/wireform/wireform/json/Json", "isReserved", "(Ljava/lang/String;)Z"⟩ : MethodName)) hown77 (mvT hZ77 (wd hw 70 rfl)) (mvT hZ77 (wd hw 71 rfl)) (mvT hZ77 (wd hw 72 rfl)) (mvT hZ77 (wd hw 73 rfl)) (by decide) (backOfSH (W := 0) (rmR l Z a0 hw [] nx_77 zc fm nt_77 nk_77 ([cv_1, cv_3, cv_6, cv_9, cv_12] : List Int32) T77.heap n0 Z77 c89 uS uF uP uR f77_0 f77_1 f77_2 f77_3 (own_all5 f1_0 f3_0 f6_0 f9_0 f12_0) (Nat.le_of_ble_eq_true rfl)) hZ77 (wd hw 73 rfl) (wd hw 72 rfl) (by decide) (by decide) (own_EW hw) hCe79) (g := (mkF m 215 #[vi p0, vl q1, us, vi (5 : Int32), vi vK, vi vM, vi cv_1, vi cv_3, vi cv_6, vi cv_9, vi cv_12, vi cv_15, vr nx_77, vi (0 : Int32)] [(.ref nx_77)])) rfl (by rw [hml]; rfl) (argsL := [(.ref nx_77)]) (rest := []) (lenOf pd_9 rfl) rfl (by show 2 * 0 + _ ≤ _; exact Nat.le_of_eq rfl) (hb hby at_215) (fun _ _ => ⟨rfl, rfl, (by decide : 15 + 6 ≤ _), (by decide : 158 + 60 ≤ _)⟩)
              dsimp only [Pt.U, Pt.locs, Pt.cells, Pt.slots] at X88' hS88' hg88 lq88 yq88 zq88 st88 hQ88 CH88
              have X88' := own_reb X88' lq88 yq88 zq88
              obtain ⟨X88, hS88, hZ88, hown88⟩ := rebS hS77 (own_hk rfl hk77) X88' hS88' hg88 hZ77 hown77
              obtain ⟨rfl, Nq88, Kq88⟩ := hQ88
              have N88 := Fr.app N77 Nq88
              have Re90 := Re79.trans CH88
              have hCe90 := Re90.1
              have K88 : Keep h0 T88.heap [] := K77.trans Kq88 all0
              have Z88 : n0 ≤ T88.heap.size := Nat.le_trans Z77 Kq88.1
              have hk88 : T88.heap.size ≤ T88.heap.size := Nat.le_refl _
              obtain ⟨fs, hr, hrun, hended, en1, en2, en3, en4⟩ := X88.leaveW hS88 (own_hk rfl hk88) (v := some (.int (nar .boolean (1 : Int32)))) (fun h => by rw [Bd.returns] at h; cases h)
              refine ⟨_, _, pre0 _ ?_, hrun, hended, _, _, rfl, ?_, own_chr (T := T88) hh rfl (Re90.trans (CHv.at X88 hZ88 (own_EW hw) hCe90)), en1, en2, en3, en4.mono (by decide) (by decide)⟩
              · refine sg18 _ ?_
                refine sg80 _ ?_
                refine sg81 _ ?_
                refine sg82 _ ?_
                refine sg83 _ ?_
                refine sg84 _ ?_
                show SS p e below T77 (mkF m 144 #[vi p0, vl q1, us, vi (5 : Int32), vi vK, vi vM, vi cv_1, vi cv_3, vi cv_6, vi cv_9, vi cv_12, vi cv_15, vr nx_77, uu] [(.int (101 : Int32)), (.int cv_12)]) _
                refine XS.icmpNo X77.here hx rfl (hb hby at_144) rfl (feq (hc144 : ¬ (cv_12 = (101 : Int32)))).1 ?_
                show SS p e below T77 (mkF m 147 #[vi p0, vl q1, us, vi (5 : Int32), vi vK, vi vM, vi cv_1, vi cv_3, vi cv_6, vi cv_9, vi cv_12, vi cv_15, vr nx_77, uu] []) _
                refine XS.iloadN X77.here hx rfl (hb hby at_147) rfl ?_
                show SS p e below T77 (mkF m 148 #[vi p0, vl q1, us, vi (5 : Int32), vi vK, vi vM, vi cv_1, vi cv_3, vi cv_6, vi cv_9, vi cv_12, vi cv_15, vr nx_77, uu] [(.int (5 : Int32))]) _
                refine XS.iconst X77.here hx rfl (hb hby at_148) ?_
                show SS p e below T77 (mkF m 149 #[vi p0, vl q1, us, vi (5 : Int32), vi vK, vi vM, vi cv_1, vi cv_3, vi cv_6, vi cv_9, vi cv_12, vi cv_15, vr nx_77, uu] [(.int (3 : Int32)), (.int (5 : Int32))]) _
                refine XS.icmpYes X77.here hx rfl (pc0 := 149) (pc' := 173) rfl (hb hby at_149) rfl (feq (by decide : ¬ ((5 : Int32) = (3 : Int32)))).2 (by decide) (by decide) ?_
                show SS p e below T77 (mkF m 173 #[vi p0, vl q1, us, vi (5 : Int32), vi vK, vi vM, vi cv_1, vi cv_3, vi cv_6, vi cv_9, vi cv_12, vi cv_15, vr nx_77, uu] []) _
                refine XS.iloadN X77.here hx rfl (hb hby at_173) rfl ?_
                show SS p e below T77 (mkF m 174 #[vi p0, vl q1, us, vi (5 : Int32), vi vK, vi vM, vi cv_1, vi cv_3, vi cv_6, vi cv_9, vi cv_12, vi cv_15, vr nx_77, uu] [(.int (5 : Int32))]) _
                refine XS.iconst X77.here hx rfl (hb hby at_174) ?_
                show SS p e below T77 (mkF m 175 #[vi p0, vl q1, us, vi (5 : Int32), vi vK, vi vM, vi cv_1, vi cv_3, vi cv_6, vi cv_9, vi cv_12, vi cv_15, vr nx_77, uu] [(.int (4 : Int32)), (.int (5 : Int32))]) _
                refine XS.icmpYes X77.here hx rfl (pc0 := 175) (pc' := 210) rfl (hb hby at_175) rfl (feq (by decide : ¬ ((5 : Int32) = (4 : Int32)))).2 (by decide) (by decide) ?_
                show SS p e below T77 (mkF m 210 #[vi p0, vl q1, us, vi (5 : Int32), vi vK, vi vM, vi cv_1, vi cv_3, vi cv_6, vi cv_9, vi cv_12, vi cv_15, vr nx_77, uu] []) _
                refine XS.iconst X77.here hx rfl (hb hby at_210) ?_
                show SS p e below T77 (mkF m 211 #[vi p0, vl q1, us, vi (5 : Int32), vi vK, vi vM, vi cv_1, vi cv_3, vi cv_6, vi cv_9, vi cv_12, vi cv_15, vr nx_77, uu] [(.int (0 : Int32))]) _
                refine XS.istore X77.here hx rfl (hb hby at_211) rfl (l' := #[vi p0, vl q1, us, vi (5 : Int32), vi vK, vi vM, vi cv_1, vi cv_3, vi cv_6, vi cv_9, vi cv_12, vi cv_15, vr nx_77, vi (0 : Int32)]) rfl ?_
                show SS p e below T77 (mkF m 213 #[vi p0, vl q1, us, vi (5 : Int32), vi vK, vi vM, vi cv_1, vi cv_3, vi cv_6, vi cv_9, vi cv_12, vi cv_15, vr nx_77, vi (0 : Int32)] []) _
                refine XS.aload X77.here hx rfl (hb hby at_213) rfl rfl ?_
                show SS p e below T77 (mkF m 215 #[vi p0, vl q1, us, vi (5 : Int32), vi vK, vi vM, vi cv_1, vi cv_3, vi cv_6, vi cv_9, vi cv_12, vi cv_15, vr nx_77, vi (0 : Int32)] [(.ref nx_77)]) _
                refine st88.trans ?_
                show SS p e below T88 (mkF m 218 #[vi p0, vl q1, us, vi (5 : Int32), vi vK, vi vM, vi cv_1, vi cv_3, vi cv_6, vi cv_9, vi cv_12, vi cv_15, vr nx_77, vi (0 : Int32)] [(.int (own_res ([cv_1, cv_3, cv_6, cv_9, cv_12] : List Int32)))]) _
                refine XS.iload X88.here hx rfl (hb hby at_218) rfl ?_
                show SS p e below T88 (mkF m 220 #[vi p0, vl q1, us, vi (5 : Int32), vi vK, vi vM, vi cv_1, vi cv_3, vi cv_6, vi cv_9, vi cv_12, vi cv_15, vr nx_77, vi (0 : Int32)] [(.int (0 : Int32)), (.int (own_res ([cv_1, cv_3, cv_6, cv_9, cv_12] : List Int32)))]) _
                refine XS.icmpNo X88.here hx rfl (hb hby at_220) rfl (teq ((own_r5 cv_1 cv_3 cv_6 cv_9 cv_12).trans (by simp [hc116, hc123, hc130, hc137, hc144]) : (own_res ([cv_1, cv_3, cv_6, cv_9, cv_12] : List Int32)) = (0 : Int32))).2 ?_
                show SS p e below T88 (mkF m 223 #[vi p0, vl q1, us, vi (5 : Int32), vi vK, vi vM, vi cv_1, vi cv_3, vi cv_6, vi cv_9, vi cv_12, vi cv_15, vr nx_77, vi (0 : Int32)] []) _
                refine XS.iconst X88.here hx rfl (hb hby at_223) ?_
                show SS p e below T88 (mkF m 224 #[vi p0, vl q1, us, vi (5 : Int32), vi vK, vi vM, vi cv_1, vi cv_3, vi cv_6, vi cv_9, vi cv_12, vi cv_15, vr nx_77, vi (0 : Int32)] [(.int (1 : Int32))]) _
                refine XS.goto X88.here hx rfl (pc0 := 224) (pc' := 228) rfl (hb hby at_224) (by decide) (by decide) ?_
                show SS p e below T88 (mkF m 228 #[vi p0, vl q1, us, vi (5 : Int32), vi vK, vi vM, vi cv_1, vi cv_3, vi cv_6, vi cv_9, vi cv_12, vi cv_15, vr nx_77, vi (0 : Int32)] [(.int (1 : Int32))]) _
                exact retN X88 hx (t := .boolean) Bd.returns (by simp) (hb hby at_228) hr
              · show Q_rm0 Z p0 q1 zc fm (5 : Int32) vK vM h0 n0 _ T88.heap _
                exact ⟨rfl, N88⟩
          · have c92 := (c78.keep Kq77 all0)
            obtain ⟨_, _, ⟨T91, Lw91, kw91, nw91⟩, -, X91', hS91', hg91, ⟨Lc91, hQ91, lq91, yq91, zq91, CH91⟩, st91⟩ := callSS X77 hx (y := (⟨"com/example/wireform/wireform/json/Json", "isReserved", "(Ljava/lang/String;)Z"⟩ : MethodName)) hown77 (mvT hZ77 (wd hw 70 rfl)) (mvT hZ77 (wd hw 71 rfl)) (mvT hZ77 (wd hw 72 rfl)) (mvT hZ77 (wd hw 73 rfl)) (by decide) (backOfSH (W := 0) (rmR l Z a0 hw [] nx_77 zc fm nt_77 nk_77 ([cv_1, cv_3, cv_6, cv_9, cv_12] : List Int32) T77.heap n0 Z77 c92 uS uF uP uR f77_0 f77_1 f77_2 f77_3 (own_all5 f1_0 f3_0 f6_0 f9_0 f12_0) (Nat.le_of_ble_eq_true rfl)) hZ77 (wd hw 73 rfl) (wd hw 72 rfl) (by decide) (by decide) (own_EW hw) hCe79) (g := (mkF m 215 #[vi p0, vl q1, us, vi (5 : Int32), vi vK, vi vM, vi cv_1, vi cv_3, vi cv_6, vi cv_9, vi cv_12, vi cv_15, vr nx_77, vi (0 : Int32)] [(.ref nx_77)])) rfl (by rw [hml]; rfl) (argsL := [(.ref nx_77)]) (rest := []) (lenOf pd_9 rfl) rfl (by show 2 * 0 + _ ≤ _; exact Nat.le_of_eq rfl) (hb hby at_215) (fun _ _ => ⟨rfl, rfl, (by decide : 15 + 6 ≤ _), (by decide : 158 + 60 ≤ _)⟩)
            dsimp only [Pt.U, Pt.locs, Pt.cells, Pt.slots] at X91' hS91' hg91 lq91 yq91 zq91 st91 hQ91 CH91
            have X91' := own_reb X91' lq91 yq91 zq91
            obtain ⟨X91, hS91, hZ91, hown91⟩ := rebS hS77 (own_hk rfl hk77) X91' hS91' hg91 hZ77 hown77
            obtain ⟨rfl, Nq91, Kq91⟩ := hQ91
            have N91 := Fr.app N77 Nq91
            have Re93 := Re79.trans CH91
            have hCe93 := Re93.1
            have K91 : Keep h0 T91.heap [] := K77.trans Kq91 all0
            have Z91 : n0 ≤ T91.heap.size := Nat.le_trans Z77 Kq91.1
            have hk91 : T91.heap.size ≤ T91.heap.size := Nat.le_refl _
            obtain ⟨fs, hr, hrun, hended, en1, en2, en3, en4⟩ := X91.leaveW hS91 (own_hk rfl hk91) (v := some (.int (nar .boolean (1 : Int32)))) (fun h => by rw [Bd.returns] at h; cases h)
            refine ⟨_, _, pre0 _ ?_, hrun, hended, _, _, rfl, ?_, own_chr (T := T91) hh rfl (Re93.trans (CHv.at X91 hZ91 (own_EW hw) hCe93)), en1, en2, en3, en4.mono (by decide) (by decide)⟩
            · refine sg18 _ ?_
              refine sg80 _ ?_
              refine sg81 _ ?_
              refine sg82 _ ?_
              refine sg83 _ ?_
              show SS p e below T77 (mkF m 137 #[vi p0, vl q1, us, vi (5 : Int32), vi vK, vi vM, vi cv_1, vi cv_3, vi cv_6, vi cv_9, vi cv_12, vi cv_15, vr nx_77, uu] [(.int (112 : Int32)), (.int cv_9)]) _
              refine XS.icmpYes X77.here hx rfl (pc0 := 137) (pc' := 147) rfl (hb hby at_137) rfl (feq (hc137 : ¬ (cv_9 = (112 : Int32)))).2 (by decide) (by decide) ?_
              show SS p e below T77 (mkF m 147 #[vi p0, vl q1, us, vi (5 : Int32), vi vK, vi vM, vi cv_1, vi cv_3, vi cv_6, vi cv_9, vi cv_12, vi cv_15, vr nx_77, uu] []) _
              refine XS.iloadN X77.here hx rfl (hb hby at_147) rfl ?_
              show SS p e below T77 (mkF m 148 #[vi p0, vl q1, us, vi (5 : Int32), vi vK, vi vM, vi cv_1, vi cv_3, vi cv_6, vi cv_9, vi cv_12, vi cv_15, vr nx_77, uu] [(.int (5 : Int32))]) _
              refine XS.iconst X77.here hx rfl (hb hby at_148) ?_
              show SS p e below T77 (mkF m 149 #[vi p0, vl q1, us, vi (5 : Int32), vi vK, vi vM, vi cv_1, vi cv_3, vi cv_6, vi cv_9, vi cv_12, vi cv_15, vr nx_77, uu] [(.int (3 : Int32)), (.int (5 : Int32))]) _
              refine XS.icmpYes X77.here hx rfl (pc0 := 149) (pc' := 173) rfl (hb hby at_149) rfl (feq (by decide : ¬ ((5 : Int32) = (3 : Int32)))).2 (by decide) (by decide) ?_
              show SS p e below T77 (mkF m 173 #[vi p0, vl q1, us, vi (5 : Int32), vi vK, vi vM, vi cv_1, vi cv_3, vi cv_6, vi cv_9, vi cv_12, vi cv_15, vr nx_77, uu] []) _
              refine XS.iloadN X77.here hx rfl (hb hby at_173) rfl ?_
              show SS p e below T77 (mkF m 174 #[vi p0, vl q1, us, vi (5 : Int32), vi vK, vi vM, vi cv_1, vi cv_3, vi cv_6, vi cv_9, vi cv_12, vi cv_15, vr nx_77, uu] [(.int (5 : Int32))]) _
              refine XS.iconst X77.here hx rfl (hb hby at_174) ?_
              show SS p e below T77 (mkF m 175 #[vi p0, vl q1, us, vi (5 : Int32), vi vK, vi vM, vi cv_1, vi cv_3, vi cv_6, vi cv_9, vi cv_12, vi cv_15, vr nx_77, uu] [(.int (4 : Int32)), (.int (5 : Int32))]) _
              refine XS.icmpYes X77.here hx rfl (pc0 := 175) (pc' := 210) rfl (hb hby at_175) rfl (feq (by decide : ¬ ((5 : Int32) = (4 : Int32)))).2 (by decide) (by decide) ?_
              show SS p e below T77 (mkF m 210 #[vi p0, vl q1, us, vi (5 : Int32), vi vK, vi vM, vi cv_1, vi cv_3, vi cv_6, vi cv_9, vi cv_12, vi cv_15, vr nx_77, uu] []) _
              refine XS.iconst X77.here hx rfl (hb hby at_210) ?_
              show SS p e below T77 (mkF m 211 #[vi p0, vl q1, us, vi (5 : Int32), vi vK, vi vM, vi cv_1, vi cv_3, vi cv_6, vi cv_9, vi cv_12, vi cv_15, vr nx_77, uu] [(.int (0 : Int32))]) _
              refine XS.istore X77.here hx rfl (hb hby at_211) rfl (l' := #[vi p0, vl q1, us, vi (5 : Int32), vi vK, vi vM, vi cv_1, vi cv_3, vi cv_6, vi cv_9, vi cv_12, vi cv_15, vr nx_77, vi (0 : Int32)]) rfl ?_
              show SS p e below T77 (mkF m 213 #[vi p0, vl q1, us, vi (5 : Int32), vi vK, vi vM, vi cv_1, vi cv_3, vi cv_6, vi cv_9, vi cv_12, vi cv_15, vr nx_77, vi (0 : Int32)] []) _
              refine XS.aload X77.here hx rfl (hb hby at_213) rfl rfl ?_
              show SS p e below T77 (mkF m 215 #[vi p0, vl q1, us, vi (5 : Int32), vi vK, vi vM, vi cv_1, vi cv_3, vi cv_6, vi cv_9, vi cv_12, vi cv_15, vr nx_77, vi (0 : Int32)] [(.ref nx_77)]) _
              refine st91.trans ?_
              show SS p e below T91 (mkF m 218 #[vi p0, vl q1, us, vi (5 : Int32), vi vK, vi vM, vi cv_1, vi cv_3, vi cv_6, vi cv_9, vi cv_12, vi cv_15, vr nx_77, vi (0 : Int32)] [(.int (own_res ([cv_1, cv_3, cv_6, cv_9, cv_12] : List Int32)))]) _
              refine XS.iload X91.here hx rfl (hb hby at_218) rfl ?_
              show SS p e below T91 (mkF m 220 #[vi p0, vl q1, us, vi (5 : Int32), vi vK, vi vM, vi cv_1, vi cv_3, vi cv_6, vi cv_9, vi cv_12, vi cv_15, vr nx_77, vi (0 : Int32)] [(.int (0 : Int32)), (.int (own_res ([cv_1, cv_3, cv_6, cv_9, cv_12] : List Int32)))]) _
              refine XS.icmpNo X91.here hx rfl (hb hby at_220) rfl (teq ((own_r5 cv_1 cv_3 cv_6 cv_9 cv_12).trans (by simp [hc116, hc123, hc130, hc137]) : (own_res ([cv_1, cv_3, cv_6, cv_9, cv_12] : List Int32)) = (0 : Int32))).2 ?_
              show SS p e below T91 (mkF m 223 #[vi p0, vl q1, us, vi (5 : Int32), vi vK, vi vM, vi cv_1, vi cv_3, vi cv_6, vi cv_9, vi cv_12, vi cv_15, vr nx_77, vi (0 : Int32)] []) _
              refine XS.iconst X91.here hx rfl (hb hby at_223) ?_
              show SS p e below T91 (mkF m 224 #[vi p0, vl q1, us, vi (5 : Int32), vi vK, vi vM, vi cv_1, vi cv_3, vi cv_6, vi cv_9, vi cv_12, vi cv_15, vr nx_77, vi (0 : Int32)] [(.int (1 : Int32))]) _
              refine XS.goto X91.here hx rfl (pc0 := 224) (pc' := 228) rfl (hb hby at_224) (by decide) (by decide) ?_
              show SS p e below T91 (mkF m 228 #[vi p0, vl q1, us, vi (5 : Int32), vi vK, vi vM, vi cv_1, vi cv_3, vi cv_6, vi cv_9, vi cv_12, vi cv_15, vr nx_77, vi (0 : Int32)] [(.int (1 : Int32))]) _
              exact retN X91 hx (t := .boolean) Bd.returns (by simp) (hb hby at_228) hr
            · show Q_rm0 Z p0 q1 zc fm (5 : Int32) vK vM h0 n0 _ T91.heap _
              exact ⟨rfl, N91⟩
        · have c95 := (c78.keep Kq77 all0)
          obtain ⟨_, _, ⟨T94, Lw94, kw94, nw94⟩, -, X94', hS94', hg94, ⟨Lc94, hQ94, lq94, yq94, zq94, CH94⟩, st94⟩ := callSS X77 hx (y := (⟨"com/example/wireform/wireform/json/Json", "isReserved", "(Ljava/lang/String;)Z"⟩ : MethodName)) hown77 (mvT hZ77 (wd hw 70 rfl)) (mvT hZ77 (wd hw 71 rfl)) (mvT hZ77 (wd hw 72 rfl)) (mvT hZ77 (wd hw 73 rfl)) (by decide) (backOfSH (W := 0) (rmR l Z a0 hw [] nx_77 zc fm nt_77 nk_77 ([cv_1, cv_3, cv_6, cv_9, cv_12] : List Int32) T77.heap n0 Z77 c95 uS uF uP uR f77_0 f77_1 f77_2 f77_3 (own_all5 f1_0 f3_0 f6_0 f9_0 f12_0) (Nat.le_of_ble_eq_true rfl)) hZ77 (wd hw 73 rfl) (wd hw 72 rfl) (by decide) (by decide) (own_EW hw) hCe79) (g := (mkF m 215 #[vi p0, vl q1, us, vi (5 : Int32), vi vK, vi vM, vi cv_1, vi cv_3, vi cv_6, vi cv_9, vi cv_12, vi cv_15, vr nx_77, vi (0 : Int32)] [(.ref nx_77)])) rfl (by rw [hml]; rfl) (argsL := [(.ref nx_77)]) (rest := []) (lenOf pd_9 rfl) rfl (by show 2 * 0 + _ ≤ _; exact Nat.le_of_eq rfl) (hb hby at_215) (fun _ _ => ⟨rfl, rfl, (by decide : 15 + 6 ≤ _), (by decide : 158 + 60 ≤ _)⟩)
          dsimp only [Pt.U, Pt.locs, Pt.cells, Pt.slots] at X94' hS94' hg94 lq94 yq94 zq94 st94 hQ94 CH94
          have X94' := own_reb X94' lq94 yq94 zq94
          obtain ⟨X94, hS94, hZ94, hown94⟩ := rebS hS77 (own_hk rfl hk77) X94' hS94' hg94 hZ77 hown77
          obtain ⟨rfl, Nq94, Kq94⟩ := hQ94
          have N94 := Fr.app N77 Nq94
          have Re96 := Re79.trans CH94
          have hCe96 := Re96.1
          have K94 : Keep h0 T94.heap [] := K77.trans Kq94 all0
          have Z94 : n0 ≤ T94.heap.size := Nat.le_trans Z77 Kq94.1
          have hk94 : T94.heap.size ≤ T94.heap.size := Nat.le_refl _
          obtain ⟨fs, hr, hrun, hended, en1, en2, en3, en4⟩ := X94.leaveW hS94 (own_hk rfl hk94) (v := some (.int (nar .boolean (1 : Int32)))) (fun h => by rw [Bd.returns] at h; cases h)
          refine ⟨_, _, pre0 _ ?_, hrun, hended, _, _, rfl, ?_, own_chr (T := T94) hh rfl (Re96.trans (CHv.at X94 hZ94 (own_EW hw) hCe96)), en1, en2, en3, en4.mono (by decide) (by decide)⟩
          · refine sg18 _ ?_
            refine sg80 _ ?_
            refine sg81 _ ?_
            refine sg82 _ ?_
            show SS p e below T77 (mkF m 130 #[vi p0, vl q1, us, vi (5 : Int32), vi vK, vi vM, vi cv_1, vi cv_3, vi cv_6, vi cv_9, vi cv_12, vi cv_15, vr nx_77, uu] [(.int (121 : Int32)), (.int cv_6)]) _
            refine XS.icmpYes X77.here hx rfl (pc0 := 130) (pc' := 147) rfl (hb hby at_130) rfl (feq (hc130 : ¬ (cv_6 = (121 : Int32)))).2 (by decide) (by decide) ?_
            show SS p e below T77 (mkF m 147 #[vi p0, vl q1, us, vi (5 : Int32), vi vK, vi vM, vi cv_1, vi cv_3, vi cv_6, vi cv_9, vi cv_12, vi cv_15, vr nx_77, uu] []) _
            refine XS.iloadN X77.here hx rfl (hb hby at_147) rfl ?_
            show SS p e below T77 (mkF m 148 #[vi p0, vl q1, us, vi (5 : Int32), vi vK, vi vM, vi cv_1, vi cv_3, vi cv_6, vi cv_9, vi cv_12, vi cv_15, vr nx_77, uu] [(.int (5 : Int32))]) _
            refine XS.iconst X77.here hx rfl (hb hby at_148) ?_
            show SS p e below T77 (mkF m 149 #[vi p0, vl q1, us, vi (5 : Int32), vi vK, vi vM, vi cv_1, vi cv_3, vi cv_6, vi cv_9, vi cv_12, vi cv_15, vr nx_77, uu] [(.int (3 : Int32)), (.int (5 : Int32))]) _
            refine XS.icmpYes X77.here hx rfl (pc0 := 149) (pc' := 173) rfl (hb hby at_149) rfl (feq (by decide : ¬ ((5 : Int32) = (3 : Int32)))).2 (by decide) (by decide) ?_
            show SS p e below T77 (mkF m 173 #[vi p0, vl q1, us, vi (5 : Int32), vi vK, vi vM, vi cv_1, vi cv_3, vi cv_6, vi cv_9, vi cv_12, vi cv_15, vr nx_77, uu] []) _
            refine XS.iloadN X77.here hx rfl (hb hby at_173) rfl ?_
            show SS p e below T77 (mkF m 174 #[vi p0, vl q1, us, vi (5 : Int32), vi vK, vi vM, vi cv_1, vi cv_3, vi cv_6, vi cv_9, vi cv_12, vi cv_15, vr nx_77, uu] [(.int (5 : Int32))]) _
            refine XS.iconst X77.here hx rfl (hb hby at_174) ?_
            show SS p e below T77 (mkF m 175 #[vi p0, vl q1, us, vi (5 : Int32), vi vK, vi vM, vi cv_1, vi cv_3, vi cv_6, vi cv_9, vi cv_12, vi cv_15, vr nx_77, uu] [(.int (4 : Int32)), (.int (5 : Int32))]) _
            refine XS.icmpYes X77.here hx rfl (pc0 := 175) (pc' := 210) rfl (hb hby at_175) rfl (feq (by decide : ¬ ((5 : Int32) = (4 : Int32)))).2 (by decide) (by decide) ?_
            show SS p e below T77 (mkF m 210 #[vi p0, vl q1, us, vi (5 : Int32), vi vK, vi vM, vi cv_1, vi cv_3, vi cv_6, vi cv_9, vi cv_12, vi cv_15, vr nx_77, uu] []) _
            refine XS.iconst X77.here hx rfl (hb hby at_210) ?_
            show SS p e below T77 (mkF m 211 #[vi p0, vl q1, us, vi (5 : Int32), vi vK, vi vM, vi cv_1, vi cv_3, vi cv_6, vi cv_9, vi cv_12, vi cv_15, vr nx_77, uu] [(.int (0 : Int32))]) _
            refine XS.istore X77.here hx rfl (hb hby at_211) rfl (l' := #[vi p0, vl q1, us, vi (5 : Int32), vi vK, vi vM, vi cv_1, vi cv_3, vi cv_6, vi cv_9, vi cv_12, vi cv_15, vr nx_77, vi (0 : Int32)]) rfl ?_
            show SS p e below T77 (mkF m 213 #[vi p0, vl q1, us, vi (5 : Int32), vi vK, vi vM, vi cv_1, vi cv_3, vi cv_6, vi cv_9, vi cv_12, vi cv_15, vr nx_77, vi (0 : Int32)] []) _
            refine XS.aload X77.here hx rfl (hb hby at_213) rfl rfl ?_
            show SS p e below T77 (mkF m 215 #[vi p0, vl q1, us, vi (5 : Int32), vi vK, vi vM, vi cv_1, vi cv_3, vi cv_6, vi cv_9, vi cv_12, vi cv_15, vr nx_77, vi (0 : Int32)] [(.ref nx_77)]) _
            refine st94.trans ?_
            show SS p e below T94 (mkF m 218 #[vi p0, vl q1, us, vi (5 : Int32), vi vK, vi vM, vi cv_1, vi cv_3, vi cv_6, vi cv_9, vi cv_12, vi cv_15, vr nx_77, vi (0 : Int32)] [(.int (own_res ([cv_1, cv_3, cv_6, cv_9, cv_12] : List Int32)))]) _
            refine XS.iload X94.here hx rfl (hb hby at_218) rfl ?_
            show SS p e below T94 (mkF m 220 #[vi p0, vl q1, us, vi (5 : Int32), vi vK, vi vM, vi cv_1, vi cv_3, vi cv_6, vi cv_9, vi cv_12, vi cv_15, vr nx_77, vi (0 : Int32)] [(.int (0 : Int32)), (.int (own_res ([cv_1, cv_3, cv_6, cv_9, cv_12] : List Int32)))]) _
            refine XS.icmpNo X94.here hx rfl (hb hby at_220) rfl (teq ((own_r5 cv_1 cv_3 cv_6 cv_9 cv_12).trans (by simp [hc116, hc123, hc130]) : (own_res ([cv_1, cv_3, cv_6, cv_9, cv_12] : List Int32)) = (0 : Int32))).2 ?_
            show SS p e below T94 (mkF m 223 #[vi p0, vl q1, us, vi (5 : Int32), vi vK, vi vM, vi cv_1, vi cv_3, vi cv_6, vi cv_9, vi cv_12, vi cv_15, vr nx_77, vi (0 : Int32)] []) _
            refine XS.iconst X94.here hx rfl (hb hby at_223) ?_
            show SS p e below T94 (mkF m 224 #[vi p0, vl q1, us, vi (5 : Int32), vi vK, vi vM, vi cv_1, vi cv_3, vi cv_6, vi cv_9, vi cv_12, vi cv_15, vr nx_77, vi (0 : Int32)] [(.int (1 : Int32))]) _
            refine XS.goto X94.here hx rfl (pc0 := 224) (pc' := 228) rfl (hb hby at_224) (by decide) (by decide) ?_
            show SS p e below T94 (mkF m 228 #[vi p0, vl q1, us, vi (5 : Int32), vi vK, vi vM, vi cv_1, vi cv_3, vi cv_6, vi cv_9, vi cv_12, vi cv_15, vr nx_77, vi (0 : Int32)] [(.int (1 : Int32))]) _
            exact retN X94 hx (t := .boolean) Bd.returns (by simp) (hb hby at_228) hr
          · show Q_rm0 Z p0 q1 zc fm (5 : Int32) vK vM h0 n0 _ T94.heap _
            exact ⟨rfl, N94⟩
      · have c98 := (c78.keep Kq77 all0)
        obtain ⟨_, _, ⟨T97, Lw97, kw97, nw97⟩, -, X97', hS97', hg97, ⟨Lc97, hQ97, lq97, yq97, zq97, CH97⟩, st97⟩ := callSS X77 hx (y := (⟨"com/example/wireform/wireform/json/Json", "isReserved", "(Ljava/lang/String;)Z"⟩ : MethodName)) hown77 (mvT hZ77 (wd hw 70 rfl)) (mvT hZ77 (wd hw 71 rfl)) (mvT hZ77 (wd hw 72 rfl)) (mvT hZ77 (wd hw 73 rfl)) (by decide) (backOfSH (W := 0) (rmR l Z a0 hw [] nx_77 zc fm nt_77 nk_77 ([cv_1, cv_3, cv_6, cv_9, cv_12] : List Int32) T77.heap n0 Z77 c98 uS uF uP uR f77_0 f77_1 f77_2 f77_3 (own_all5 f1_0 f3_0 f6_0 f9_0 f12_0) (Nat.le_of_ble_eq_true rfl)) hZ77 (wd hw 73 rfl) (wd hw 72 rfl) (by decide) (by decide) (own_EW hw) hCe79) (g := (mkF m 215 #[vi p0, vl q1, us, vi (5 : Int32), vi vK, vi vM, vi cv_1, vi cv_3, vi cv_6, vi cv_9, vi cv_12, vi cv_15, vr nx_77, vi (0 : Int32)] [(.ref nx_77)])) rfl (by rw [hml]; rfl) (argsL := [(.ref nx_77)]) (rest := []) (lenOf pd_9 rfl) rfl (by show 2 * 0 + _ ≤ _; exact Nat.le_of_eq rfl) (hb hby at_215) (fun _ _ => ⟨rfl, rfl, (by decide : 15 + 6 ≤ _), (by decide : 158 + 60 ≤ _)⟩)
        dsimp only [Pt.U, Pt.locs, Pt.cells, Pt.slots] at X97' hS97' hg97 lq97 yq97 zq97 st97 hQ97 CH97
        have X97' := own_reb X97' lq97 yq97 zq97
        obtain ⟨X97, hS97, hZ97, hown97⟩ := rebS hS77 (own_hk rfl hk77) X97' hS97' hg97 hZ77 hown77
        obtain ⟨rfl, Nq97, Kq97⟩ := hQ97
        have N97 := Fr.app N77 Nq97
        have Re99 := Re79.trans CH97
        have hCe99 := Re99.1
        have K97 : Keep h0 T97.heap [] := K77.trans Kq97 all0
        have Z97 : n0 ≤ T97.heap.size := Nat.le_trans Z77 Kq97.1
        have hk97 : T97.heap.size ≤ T97.heap.size := Nat.le_refl _
        obtain ⟨fs, hr, hrun, hended, en1, en2, en3, en4⟩ := X97.leaveW hS97 (own_hk rfl hk97) (v := some (.int (nar .boolean (1 : Int32)))) (fun h => by rw [Bd.returns] at h; cases h)
        refine ⟨_, _, pre0 _ ?_, hrun, hended, _, _, rfl, ?_, own_chr (T := T97) hh rfl (Re99.trans (CHv.at X97 hZ97 (own_EW hw) hCe99)), en1, en2, en3, en4.mono (by decide) (by decide)⟩
        · refine sg18 _ ?_
          refine sg80 _ ?_
          refine sg81 _ ?_
          show SS p e below T77 (mkF m 123 #[vi p0, vl q1, us, vi (5 : Int32), vi vK, vi vM, vi cv_1, vi cv_3, vi cv_6, vi cv_9, vi cv_12, vi cv_15, vr nx_77, uu] [(.int (116 : Int32)), (.int cv_3)]) _
          refine XS.icmpYes X77.here hx rfl (pc0 := 123) (pc' := 147) rfl (hb hby at_123) rfl (feq (hc123 : ¬ (cv_3 = (116 : Int32)))).2 (by decide) (by decide) ?_
          show SS p e below T77 (mkF m 147 #[vi p0, vl q1, us, vi (5 : Int32), vi vK, vi vM, vi cv_1, vi cv_3, vi cv_6, vi cv_9, vi cv_12, vi cv_15, vr nx_77, uu] []) _
          refine XS.iloadN X77.here hx rfl (hb hby at_147) rfl ?_
          show SS p e below T77 (mkF m 148 #[vi p0, vl q1, us, vi (5 : Int32), vi vK, vi vM, vi cv_1, vi cv_3, vi cv_6, vi cv_9, vi cv_12, vi cv_15, vr nx_77, uu] [(.int (5 : Int32))]) _
          refine XS.iconst X77.here hx rfl (hb hby at_148) ?_
          show SS p e below T77 (mkF m 149 #[vi p0, vl q1, us, vi (5 : Int32), vi vK, vi vM, vi cv_1, vi cv_3, vi cv_6, vi cv_9, vi cv_12, vi cv_15, vr nx_77, uu] [(.int (3 : Int32)), (.int (5 : Int32))]) _
          refine XS.icmpYes X77.here hx rfl (pc0 := 149) (pc' := 173) rfl (hb hby at_149) rfl (feq (by decide : ¬ ((5 : Int32) = (3 : Int32)))).2 (by decide) (by decide) ?_
          show SS p e below T77 (mkF m 173 #[vi p0, vl q1, us, vi (5 : Int32), vi vK, vi vM, vi cv_1, vi cv_3, vi cv_6, vi cv_9, vi cv_12, vi cv_15, vr nx_77, uu] []) _
          refine XS.iloadN X77.here hx rfl (hb hby at_173) rfl ?_
          show SS p e below T77 (mkF m 174 #[vi p0, vl q1, us, vi (5 : Int32), vi vK, vi vM, vi cv_1, vi cv_3, vi cv_6, vi cv_9, vi cv_12, vi cv_15, vr nx_77, uu] [(.int (5 : Int32))]) _
          refine XS.iconst X77.here hx rfl (hb hby at_174) ?_
          show SS p e below T77 (mkF m 175 #[vi p0, vl q1, us, vi (5 : Int32), vi vK, vi vM, vi cv_1, vi cv_3, vi cv_6, vi cv_9, vi cv_12, vi cv_15, vr nx_77, uu] [(.int (4 : Int32)), (.int (5 : Int32))]) _
          refine XS.icmpYes X77.here hx rfl (pc0 := 175) (pc' := 210) rfl (hb hby at_175) rfl (feq (by decide : ¬ ((5 : Int32) = (4 : Int32)))).2 (by decide) (by decide) ?_
          show SS p e below T77 (mkF m 210 #[vi p0, vl q1, us, vi (5 : Int32), vi vK, vi vM, vi cv_1, vi cv_3, vi cv_6, vi cv_9, vi cv_12, vi cv_15, vr nx_77, uu] []) _
          refine XS.iconst X77.here hx rfl (hb hby at_210) ?_
          show SS p e below T77 (mkF m 211 #[vi p0, vl q1, us, vi (5 : Int32), vi vK, vi vM, vi cv_1, vi cv_3, vi cv_6, vi cv_9, vi cv_12, vi cv_15, vr nx_77, uu] [(.int (0 : Int32))]) _
          refine XS.istore X77.here hx rfl (hb hby at_211) rfl (l' := #[vi p0, vl q1, us, vi (5 : Int32), vi vK, vi vM, vi cv_1, vi cv_3, vi cv_6, vi cv_9, vi cv_12, vi cv_15, vr nx_77, vi (0 : Int32)]) rfl ?_
          show SS p e below T77 (mkF m 213 #[vi p0, vl q1, us, vi (5 : Int32), vi vK, vi vM, vi cv_1, vi cv_3, vi cv_6, vi cv_9, vi cv_12, vi cv_15, vr nx_77, vi (0 : Int32)] []) _
          refine XS.aload X77.here hx rfl (hb hby at_213) rfl rfl ?_
          show SS p e below T77 (mkF m 215 #[vi p0, vl q1, us, vi (5 : Int32), vi vK, vi vM, vi cv_1, vi cv_3, vi cv_6, vi cv_9, vi cv_12, vi cv_15, vr nx_77, vi (0 : Int32)] [(.ref nx_77)]) _
          refine st97.trans ?_
          show SS p e below T97 (mkF m 218 #[vi p0, vl q1, us, vi (5 : Int32), vi vK, vi vM, vi cv_1, vi cv_3, vi cv_6, vi cv_9, vi cv_12, vi cv_15, vr nx_77, vi (0 : Int32)] [(.int (own_res ([cv_1, cv_3, cv_6, cv_9, cv_12] : List Int32)))]) _
          refine XS.iload X97.here hx rfl (hb hby at_218) rfl ?_
          show SS p e below T97 (mkF m 220 #[vi p0, vl q1, us, vi (5 : Int32), vi vK, vi vM, vi cv_1, vi cv_3, vi cv_6, vi cv_9, vi cv_12, vi cv_15, vr nx_77, vi (0 : Int32)] [(.int (0 : Int32)), (.int (own_res ([cv_1, cv_3, cv_6, cv_9, cv_12] : List Int32)))]) _
          refine XS.icmpNo X97.here hx rfl (hb hby at_220) rfl (teq ((own_r5 cv_1 cv_3 cv_6 cv_9 cv_12).trans (by simp [hc116, hc123]) : (own_res ([cv_1, cv_3, cv_6, cv_9, cv_12] : List Int32)) = (0 : Int32))).2 ?_
          show SS p e below T97 (mkF m 223 #[vi p0, vl q1, us, vi (5 : Int32), vi vK, vi vM, vi cv_1, vi cv_3, vi cv_6, vi cv_9, vi cv_12, vi cv_15, vr nx_77, vi (0 : Int32)] []) _
          refine XS.iconst X97.here hx rfl (hb hby at_223) ?_
          show SS p e below T97 (mkF m 224 #[vi p0, vl q1, us, vi (5 : Int32), vi vK, vi vM, vi cv_1, vi cv_3, vi cv_6, vi cv_9, vi cv_12, vi cv_15, vr nx_77, vi (0 : Int32)] [(.int (1 : Int32))]) _
          refine XS.goto X97.here hx rfl (pc0 := 224) (pc' := 228) rfl (hb hby at_224) (by decide) (by decide) ?_
          show SS p e below T97 (mkF m 228 #[vi p0, vl q1, us, vi (5 : Int32), vi vK, vi vM, vi cv_1, vi cv_3, vi cv_6, vi cv_9, vi cv_12, vi cv_15, vr nx_77, vi (0 : Int32)] [(.int (1 : Int32))]) _
          exact retN X97 hx (t := .boolean) Bd.returns (by simp) (hb hby at_228) hr
        · show Q_rm0 Z p0 q1 zc fm (5 : Int32) vK vM h0 n0 _ T97.heap _
          exact ⟨rfl, N97⟩
    · have c101 := (c78.keep Kq77 all0)
      obtain ⟨_, _, ⟨T100, Lw100, kw100, nw100⟩, -, X100', hS100', hg100, ⟨Lc100, hQ100, lq100, yq100, zq100, CH100⟩, st100⟩ := callSS X77 hx (y := (⟨"com/example/wireform/wireform/json/Json", "isReserved", "(Ljava/lang/String;)Z"⟩ : MethodName)) hown77 (mvT hZ77 (wd hw 70 rfl)) (mvT hZ77 (wd hw 71 rfl)) (mvT hZ77 (wd hw 72 rfl)) (mvT hZ77 (wd hw 73 rfl)) (by decide) (backOfSH (W := 0) (rmR l Z a0 hw [] nx_77 zc fm nt_77 nk_77 ([cv_1, cv_3, cv_6, cv_9, cv_12] : List Int32) T77.heap n0 Z77 c101 uS uF uP uR f77_0 f77_1 f77_2 f77_3 (own_all5 f1_0 f3_0 f6_0 f9_0 f12_0) (Nat.le_of_ble_eq_true rfl)) hZ77 (wd hw 73 rfl) (wd hw 72 rfl) (by decide) (by decide) (own_EW hw) hCe79) (g := (mkF m 215 #[vi p0, vl q1, us, vi (5 : Int32), vi vK, vi vM, vi cv_1, vi cv_3, vi cv_6, vi cv_9, vi cv_12, vi cv_15, vr nx_77, vi (0 : Int32)] [(.ref nx_77)])) rfl (by rw [hml]; rfl) (argsL := [(.ref nx_77)]) (rest := []) (lenOf pd_9 rfl) rfl (by show 2 * 0 + _ ≤ _; exact Nat.le_of_eq rfl) (hb hby at_215) (fun _ _ => ⟨rfl, rfl, (by decide : 15 + 6 ≤ _), (by decide : 158 + 60 ≤ _)⟩)
      dsimp only [Pt.U, Pt.locs, Pt.cells, Pt.slots] at X100' hS100' hg100 lq100 yq100 zq100 st100 hQ100 CH100
      have X100' := own_reb X100' lq100 yq100 zq100
      obtain ⟨X100, hS100, hZ100, hown100⟩ := rebS hS77 (own_hk rfl hk77) X100' hS100' hg100 hZ77 hown77
      obtain ⟨rfl, Nq100, Kq100⟩ := hQ100
      have N100 := Fr.app N77 Nq100
      have Re102 := Re79.trans CH100
      have hCe102 := Re102.1
      have K100 : Keep h0 T100.heap [] := K77.trans Kq100 all0
      have Z100 : n0 ≤ T100.heap.size := Nat.le_trans Z77 Kq100.1
      have hk100 : T100.heap.size ≤ T100.heap.size := Nat.le_refl _
      obtain ⟨fs, hr, hrun, hended, en1, en2, en3, en4⟩ := X100.leaveW hS100 (own_hk rfl hk100) (v := some (.int (nar .boolean (1 : Int32)))) (fun h => by rw [Bd.returns] at h; cases h)
      refine ⟨_, _, pre0 _ ?_, hrun, hended, _, _, rfl, ?_, own_chr (T := T100) hh rfl (Re102.trans (CHv.at X100 hZ100 (own_EW hw) hCe102)), en1, en2, en3, en4.mono (by decide) (by decide)⟩
      · refine sg18 _ ?_
        refine sg80 _ ?_
        show SS p e below T77 (mkF m 116 #[vi p0, vl q1, us, vi (5 : Int32), vi vK, vi vM, vi cv_1, vi cv_3, vi cv_6, vi cv_9, vi cv_12, vi cv_15, vr nx_77, uu] [(.int (64 : Int32)), (.int cv_1)]) _
        refine XS.icmpYes X77.here hx rfl (pc0 := 116) (pc' := 147) rfl (hb hby at_116) rfl (feq (hc116 : ¬ (cv_1 = (64 : Int32)))).2 (by decide) (by decide) ?_
        show SS p e below T77 (mkF m 147 #[vi p0, vl q1, us, vi (5 : Int32), vi vK, vi vM, vi cv_1, vi cv_3, vi cv_6, vi cv_9, vi cv_12, vi cv_15, vr nx_77, uu] []) _
        refine XS.iloadN X77.here hx rfl (hb hby at_147) rfl ?_
        show SS p e below T77 (mkF m 148 #[vi p0, vl q1, us, vi (5 : Int32), vi vK, vi vM, vi cv_1, vi cv_3, vi cv_6, vi cv_9, vi cv_12, vi cv_15, vr nx_77, uu] [(.int (5 : Int32))]) _
        refine XS.iconst X77.here hx rfl (hb hby at_148) ?_
        show SS p e below T77 (mkF m 149 #[vi p0, vl q1, us, vi (5 : Int32), vi vK, vi vM, vi cv_1, vi cv_3, vi cv_6, vi cv_9, vi cv_12, vi cv_15, vr nx_77, uu] [(.int (3 : Int32)), (.int (5 : Int32))]) _
        refine XS.icmpYes X77.here hx rfl (pc0 := 149) (pc' := 173) rfl (hb hby at_149) rfl (feq (by decide : ¬ ((5 : Int32) = (3 : Int32)))).2 (by decide) (by decide) ?_
        show SS p e below T77 (mkF m 173 #[vi p0, vl q1, us, vi (5 : Int32), vi vK, vi vM, vi cv_1, vi cv_3, vi cv_6, vi cv_9, vi cv_12, vi cv_15, vr nx_77, uu] []) _
        refine XS.iloadN X77.here hx rfl (hb hby at_173) rfl ?_
        show SS p e below T77 (mkF m 174 #[vi p0, vl q1, us, vi (5 : Int32), vi vK, vi vM, vi cv_1, vi cv_3, vi cv_6, vi cv_9, vi cv_12, vi cv_15, vr nx_77, uu] [(.int (5 : Int32))]) _
        refine XS.iconst X77.here hx rfl (hb hby at_174) ?_
        show SS p e below T77 (mkF m 175 #[vi p0, vl q1, us, vi (5 : Int32), vi vK, vi vM, vi cv_1, vi cv_3, vi cv_6, vi cv_9, vi cv_12, vi cv_15, vr nx_77, uu] [(.int (4 : Int32)), (.int (5 : Int32))]) _
        refine XS.icmpYes X77.here hx rfl (pc0 := 175) (pc' := 210) rfl (hb hby at_175) rfl (feq (by decide : ¬ ((5 : Int32) = (4 : Int32)))).2 (by decide) (by decide) ?_
        show SS p e below T77 (mkF m 210 #[vi p0, vl q1, us, vi (5 : Int32), vi vK, vi vM, vi cv_1, vi cv_3, vi cv_6, vi cv_9, vi cv_12, vi cv_15, vr nx_77, uu] []) _
        refine XS.iconst X77.here hx rfl (hb hby at_210) ?_
        show SS p e below T77 (mkF m 211 #[vi p0, vl q1, us, vi (5 : Int32), vi vK, vi vM, vi cv_1, vi cv_3, vi cv_6, vi cv_9, vi cv_12, vi cv_15, vr nx_77, uu] [(.int (0 : Int32))]) _
        refine XS.istore X77.here hx rfl (hb hby at_211) rfl (l' := #[vi p0, vl q1, us, vi (5 : Int32), vi vK, vi vM, vi cv_1, vi cv_3, vi cv_6, vi cv_9, vi cv_12, vi cv_15, vr nx_77, vi (0 : Int32)]) rfl ?_
        show SS p e below T77 (mkF m 213 #[vi p0, vl q1, us, vi (5 : Int32), vi vK, vi vM, vi cv_1, vi cv_3, vi cv_6, vi cv_9, vi cv_12, vi cv_15, vr nx_77, vi (0 : Int32)] []) _
        refine XS.aload X77.here hx rfl (hb hby at_213) rfl rfl ?_
        show SS p e below T77 (mkF m 215 #[vi p0, vl q1, us, vi (5 : Int32), vi vK, vi vM, vi cv_1, vi cv_3, vi cv_6, vi cv_9, vi cv_12, vi cv_15, vr nx_77, vi (0 : Int32)] [(.ref nx_77)]) _
        refine st100.trans ?_
        show SS p e below T100 (mkF m 218 #[vi p0, vl q1, us, vi (5 : Int32), vi vK, vi vM, vi cv_1, vi cv_3, vi cv_6, vi cv_9, vi cv_12, vi cv_15, vr nx_77, vi (0 : Int32)] [(.int (own_res ([cv_1, cv_3, cv_6, cv_9, cv_12] : List Int32)))]) _
        refine XS.iload X100.here hx rfl (hb hby at_218) rfl ?_
        show SS p e below T100 (mkF m 220 #[vi p0, vl q1, us, vi (5 : Int32), vi vK, vi vM, vi cv_1, vi cv_3, vi cv_6, vi cv_9, vi cv_12, vi cv_15, vr nx_77, vi (0 : Int32)] [(.int (0 : Int32)), (.int (own_res ([cv_1, cv_3, cv_6, cv_9, cv_12] : List Int32)))]) _
        refine XS.icmpNo X100.here hx rfl (hb hby at_220) rfl (teq ((own_r5 cv_1 cv_3 cv_6 cv_9 cv_12).trans (by simp [hc116]) : (own_res ([cv_1, cv_3, cv_6, cv_9, cv_12] : List Int32)) = (0 : Int32))).2 ?_
        show SS p e below T100 (mkF m 223 #[vi p0, vl q1, us, vi (5 : Int32), vi vK, vi vM, vi cv_1, vi cv_3, vi cv_6, vi cv_9, vi cv_12, vi cv_15, vr nx_77, vi (0 : Int32)] []) _
        refine XS.iconst X100.here hx rfl (hb hby at_223) ?_
        show SS p e below T100 (mkF m 224 #[vi p0, vl q1, us, vi (5 : Int32), vi vK, vi vM, vi cv_1, vi cv_3, vi cv_6, vi cv_9, vi cv_12, vi cv_15, vr nx_77, vi (0 : Int32)] [(.int (1 : Int32))]) _
        refine XS.goto X100.here hx rfl (pc0 := 224) (pc' := 228) rfl (hb hby at_224) (by decide) (by decide) ?_
        show SS p e below T100 (mkF m 228 #[vi p0, vl q1, us, vi (5 : Int32), vi vK, vi vM, vi cv_1, vi cv_3, vi cv_6, vi cv_9, vi cv_12, vi cv_15, vr nx_77, vi (0 : Int32)] [(.int (1 : Int32))]) _
        exact retN X100 hx (t := .boolean) Bd.returns (by simp) (hb hby at_228) hr
      · show Q_rm0 Z p0 q1 zc fm (5 : Int32) vK vM h0 n0 _ T100.heap _
        exact ⟨rfl, N100⟩
  · have c104 := (c16.keep Kq15 all0)
    obtain ⟨_, _, ⟨T103, Lw103, kw103, nw103⟩, -, X103', hS103', hg103, ⟨Lc103, hQ103, lq103, yq103, zq103, CH103⟩, st103⟩ := callSS X15 hx (y := (⟨"com/example/wireform/wireform/json/JsonIsReservedPinLaw", "make", "(ICCCCCC)Ljava/lang/String;"⟩ : MethodName)) hown15 (mvT hZ15 (wd hw 54 rfl)) (mvT hZ15 (wd hw 55 rfl)) (mvT hZ15 (wd hw 2 rfl)) (mvT hZ15 (wd hw 56 rfl)) (by decide) (backOfSH (W := 0) (rmM6 l Z a0 hw [] cv_1 cv_3 cv_6 cv_9 cv_12 cv_15 zc fm T15.heap n0 Z15 c104 uS uF uP uR f1_0 f3_0 f6_0 f9_0 f12_0 f15_0) hZ15 (wd hw 56 rfl) (wd hw 2 rfl) (by decide) (by decide) (own_EW hw) hCe17) (g := (mkF m 102 #[vi p0, vl q1, us, vi (6 : Int32), vi vK, vi vM, vi cv_1, vi cv_3, vi cv_6, vi cv_9, vi cv_12, vi cv_15, uu, uu] [(.int cv_15), (.int cv_12), (.int cv_9), (.int cv_6), (.int cv_3), (.int cv_1), (.int (6 : Int32))])) rfl (by rw [hml]; rfl) (argsL := [(.int (6 : Int32)), (.int cv_1), (.int cv_3), (.int cv_6), (.int cv_9), (.int cv_12), (.int cv_15)]) (rest := []) (lenOf pd_8 rfl) rfl (by show 2 * 0 + _ ≤ _; exact Nat.le_of_eq rfl) (hb hby at_102) (fun _ _ => ⟨rfl, rfl, (by decide : 12 + 3 ≤ _), (by decide : 144 + 16 ≤ _)⟩)
    dsimp only [Pt.U, Pt.locs, Pt.cells, Pt.slots] at X103' hS103' hg103 lq103 yq103 zq103 st103 hQ103 CH103
    have X103' := own_reb X103' lq103 yq103 zq103
    obtain ⟨X103, hS103, hZ103, hown103⟩ := rebS hS15 (own_hk rfl hk15) X103' hS103' hg103 hZ15 hown15
    obtain ⟨nx_103, nt_103, nk_103, rfl, Nq103, Kq103, f103_0, f103_1, f103_2, f103_3⟩ := hQ103
    have N103 := Fr.app N15 Nq103
    have Re105 := Re17.trans CH103
    have hCe105 := Re105.1
    have K103 : Keep h0 T103.heap [] := K15.trans Kq103 all0
    have Z103 : n0 ≤ T103.heap.size := Nat.le_trans Z15 Kq103.1
    have hk103 : T103.heap.size ≤ T103.heap.size := Nat.le_refl _
    have c107 := (c104.keep Kq103 all0)
    obtain ⟨_, _, ⟨T106, Lw106, kw106, nw106⟩, -, X106', hS106', hg106, ⟨Lc106, hQ106, lq106, yq106, zq106, CH106⟩, st106⟩ := callSS X103 hx (y := (⟨"com/example/wireform/wireform/json/Json", "isReserved", "(Ljava/lang/String;)Z"⟩ : MethodName)) hown103 (mvT hZ103 (wd hw 70 rfl)) (mvT hZ103 (wd hw 71 rfl)) (mvT hZ103 (wd hw 72 rfl)) (mvT hZ103 (wd hw 73 rfl)) (by decide) (backOfSH (W := 0) (rmR l Z a0 hw [] nx_103 zc fm nt_103 nk_103 ([cv_1, cv_3, cv_6, cv_9, cv_12, cv_15] : List Int32) T103.heap n0 Z103 c107 uS uF uP uR f103_0 f103_1 f103_2 f103_3 (own_all6 f1_0 f3_0 f6_0 f9_0 f12_0 f15_0) (Nat.le_of_ble_eq_true rfl)) hZ103 (wd hw 73 rfl) (wd hw 72 rfl) (by decide) (by decide) (own_EW hw) hCe105) (g := (mkF m 215 #[vi p0, vl q1, us, vi (6 : Int32), vi vK, vi vM, vi cv_1, vi cv_3, vi cv_6, vi cv_9, vi cv_12, vi cv_15, vr nx_103, vi (0 : Int32)] [(.ref nx_103)])) rfl (by rw [hml]; rfl) (argsL := [(.ref nx_103)]) (rest := []) (lenOf pd_9 rfl) rfl (by show 2 * 0 + _ ≤ _; exact Nat.le_of_eq rfl) (hb hby at_215) (fun _ _ => ⟨rfl, rfl, (by decide : 15 + 6 ≤ _), (by decide : 160 + 60 ≤ _)⟩)
    dsimp only [Pt.U, Pt.locs, Pt.cells, Pt.slots] at X106' hS106' hg106 lq106 yq106 zq106 st106 hQ106 CH106
    have X106' := own_reb X106' lq106 yq106 zq106
    obtain ⟨X106, hS106, hZ106, hown106⟩ := rebS hS103 (own_hk rfl hk103) X106' hS106' hg106 hZ103 hown103
    obtain ⟨rfl, Nq106, Kq106⟩ := hQ106
    have N106 := Fr.app N103 Nq106
    have Re108 := Re105.trans CH106
    have hCe108 := Re108.1
    have K106 : Keep h0 T106.heap [] := K103.trans Kq106 all0
    have Z106 : n0 ≤ T106.heap.size := Nat.le_trans Z103 Kq106.1
    have hk106 : T106.heap.size ≤ T106.heap.size := Nat.le_refl _
    obtain ⟨fs, hr, hrun, hended, en1, en2, en3, en4⟩ := X106.leaveW hS106 (own_hk rfl hk106) (v := some (.int (nar .boolean (1 : Int32)))) (fun h => by rw [Bd.returns] at h; cases h)
    refine ⟨_, _, pre0 _ ?_, hrun, hended, _, _, rfl, ?_, own_chr (T := T106) hh rfl (Re108.trans (CHv.at X106 hZ106 (own_EW hw) hCe108)), en1, en2, en3, en4.mono (by decide) (by decide)⟩
    · refine sg18 _ ?_
      show SS p e below T15 (mkF m 102 #[vi p0, vl q1, us, vi (6 : Int32), vi vK, vi vM, vi cv_1, vi cv_3, vi cv_6, vi cv_9, vi cv_12, vi cv_15, uu, uu] [(.int cv_15), (.int cv_12), (.int cv_9), (.int cv_6), (.int cv_3), (.int cv_1), (.int (6 : Int32))]) _
      refine st103.trans ?_
      show SS p e below T103 (mkF m 105 #[vi p0, vl q1, us, vi (6 : Int32), vi vK, vi vM, vi cv_1, vi cv_3, vi cv_6, vi cv_9, vi cv_12, vi cv_15, uu, uu] [(.ref nx_103)]) _
      refine XS.astore X103.here hx rfl (hb hby at_105) rfl rfl (l' := #[vi p0, vl q1, us, vi (6 : Int32), vi vK, vi vM, vi cv_1, vi cv_3, vi cv_6, vi cv_9, vi cv_12, vi cv_15, vr nx_103, uu]) rfl ?_
      show SS p e below T103 (mkF m 107 #[vi p0, vl q1, us, vi (6 : Int32), vi vK, vi vM, vi cv_1, vi cv_3, vi cv_6, vi cv_9, vi cv_12, vi cv_15, vr nx_103, uu] []) _
      refine XS.iloadN X103.here hx rfl (hb hby at_107) rfl ?_
      show SS p e below T103 (mkF m 108 #[vi p0, vl q1, us, vi (6 : Int32), vi vK, vi vM, vi cv_1, vi cv_3, vi cv_6, vi cv_9, vi cv_12, vi cv_15, vr nx_103, uu] [(.int (6 : Int32))]) _
      refine XS.iconst X103.here hx rfl (hb hby at_108) ?_
      show SS p e below T103 (mkF m 109 #[vi p0, vl q1, us, vi (6 : Int32), vi vK, vi vM, vi cv_1, vi cv_3, vi cv_6, vi cv_9, vi cv_12, vi cv_15, vr nx_103, uu] [(.int (5 : Int32)), (.int (6 : Int32))]) _
      refine XS.icmpYes X103.here hx rfl (pc0 := 109) (pc' := 147) rfl (hb hby at_109) rfl (feq (by decide : ¬ ((6 : Int32) = (5 : Int32)))).2 (by decide) (by decide) ?_
      show SS p e below T103 (mkF m 147 #[vi p0, vl q1, us, vi (6 : Int32), vi vK, vi vM, vi cv_1, vi cv_3, vi cv_6, vi cv_9, vi cv_12, vi cv_15, vr nx_103, uu] []) _
      refine XS.iloadN X103.here hx rfl (hb hby at_147) rfl ?_
      show SS p e below T103 (mkF m 148 #[vi p0, vl q1, us, vi (6 : Int32), vi vK, vi vM, vi cv_1, vi cv_3, vi cv_6, vi cv_9, vi cv_12, vi cv_15, vr nx_103, uu] [(.int (6 : Int32))]) _
      refine XS.iconst X103.here hx rfl (hb hby at_148) ?_
      show SS p e below T103 (mkF m 149 #[vi p0, vl q1, us, vi (6 : Int32), vi vK, vi vM, vi cv_1, vi cv_3, vi cv_6, vi cv_9, vi cv_12, vi cv_15, vr nx_103, uu] [(.int (3 : Int32)), (.int (6 : Int32))]) _
      refine XS.icmpYes X103.here hx rfl (pc0 := 149) (pc' := 173) rfl (hb hby at_149) rfl (feq (by decide : ¬ ((6 : Int32) = (3 : Int32)))).2 (by decide) (by decide) ?_
      show SS p e below T103 (mkF m 173 #[vi p0, vl q1, us, vi (6 : Int32), vi vK, vi vM, vi cv_1, vi cv_3, vi cv_6, vi cv_9, vi cv_12, vi cv_15, vr nx_103, uu] []) _
      refine XS.iloadN X103.here hx rfl (hb hby at_173) rfl ?_
      show SS p e below T103 (mkF m 174 #[vi p0, vl q1, us, vi (6 : Int32), vi vK, vi vM, vi cv_1, vi cv_3, vi cv_6, vi cv_9, vi cv_12, vi cv_15, vr nx_103, uu] [(.int (6 : Int32))]) _
      refine XS.iconst X103.here hx rfl (hb hby at_174) ?_
      show SS p e below T103 (mkF m 175 #[vi p0, vl q1, us, vi (6 : Int32), vi vK, vi vM, vi cv_1, vi cv_3, vi cv_6, vi cv_9, vi cv_12, vi cv_15, vr nx_103, uu] [(.int (4 : Int32)), (.int (6 : Int32))]) _
      refine XS.icmpYes X103.here hx rfl (pc0 := 175) (pc' := 210) rfl (hb hby at_175) rfl (feq (by decide : ¬ ((6 : Int32) = (4 : Int32)))).2 (by decide) (by decide) ?_
      show SS p e below T103 (mkF m 210 #[vi p0, vl q1, us, vi (6 : Int32), vi vK, vi vM, vi cv_1, vi cv_3, vi cv_6, vi cv_9, vi cv_12, vi cv_15, vr nx_103, uu] []) _
      refine XS.iconst X103.here hx rfl (hb hby at_210) ?_
      show SS p e below T103 (mkF m 211 #[vi p0, vl q1, us, vi (6 : Int32), vi vK, vi vM, vi cv_1, vi cv_3, vi cv_6, vi cv_9, vi cv_12, vi cv_15, vr nx_103, uu] [(.int (0 : Int32))]) _
      refine XS.istore X103.here hx rfl (hb hby at_211) rfl (l' := #[vi p0, vl q1, us, vi (6 : Int32), vi vK, vi vM, vi cv_1, vi cv_3, vi cv_6, vi cv_9, vi cv_12, vi cv_15, vr nx_103, vi (0 : Int32)]) rfl ?_
      show SS p e below T103 (mkF m 213 #[vi p0, vl q1, us, vi (6 : Int32), vi vK, vi vM, vi cv_1, vi cv_3, vi cv_6, vi cv_9, vi cv_12, vi cv_15, vr nx_103, vi (0 : Int32)] []) _
      refine XS.aload X103.here hx rfl (hb hby at_213) rfl rfl ?_
      show SS p e below T103 (mkF m 215 #[vi p0, vl q1, us, vi (6 : Int32), vi vK, vi vM, vi cv_1, vi cv_3, vi cv_6, vi cv_9, vi cv_12, vi cv_15, vr nx_103, vi (0 : Int32)] [(.ref nx_103)]) _
      refine st106.trans ?_
      show SS p e below T106 (mkF m 218 #[vi p0, vl q1, us, vi (6 : Int32), vi vK, vi vM, vi cv_1, vi cv_3, vi cv_6, vi cv_9, vi cv_12, vi cv_15, vr nx_103, vi (0 : Int32)] [(.int (own_res ([cv_1, cv_3, cv_6, cv_9, cv_12, cv_15] : List Int32)))]) _
      refine XS.iload X106.here hx rfl (hb hby at_218) rfl ?_
      show SS p e below T106 (mkF m 220 #[vi p0, vl q1, us, vi (6 : Int32), vi vK, vi vM, vi cv_1, vi cv_3, vi cv_6, vi cv_9, vi cv_12, vi cv_15, vr nx_103, vi (0 : Int32)] [(.int (0 : Int32)), (.int (own_res ([cv_1, cv_3, cv_6, cv_9, cv_12, cv_15] : List Int32)))]) _
      refine XS.icmpNo X106.here hx rfl (hb hby at_220) rfl (teq ((own_r6 cv_1 cv_3 cv_6 cv_9 cv_12 cv_15).trans (by simp) : (own_res ([cv_1, cv_3, cv_6, cv_9, cv_12, cv_15] : List Int32)) = (0 : Int32))).2 ?_
      show SS p e below T106 (mkF m 223 #[vi p0, vl q1, us, vi (6 : Int32), vi vK, vi vM, vi cv_1, vi cv_3, vi cv_6, vi cv_9, vi cv_12, vi cv_15, vr nx_103, vi (0 : Int32)] []) _
      refine XS.iconst X106.here hx rfl (hb hby at_223) ?_
      show SS p e below T106 (mkF m 224 #[vi p0, vl q1, us, vi (6 : Int32), vi vK, vi vM, vi cv_1, vi cv_3, vi cv_6, vi cv_9, vi cv_12, vi cv_15, vr nx_103, vi (0 : Int32)] [(.int (1 : Int32))]) _
      refine XS.goto X106.here hx rfl (pc0 := 224) (pc' := 228) rfl (hb hby at_224) (by decide) (by decide) ?_
      show SS p e below T106 (mkF m 228 #[vi p0, vl q1, us, vi (6 : Int32), vi vK, vi vM, vi cv_1, vi cv_3, vi cv_6, vi cv_9, vi cv_12, vi cv_15, vr nx_103, vi (0 : Int32)] [(.int (1 : Int32))]) _
      exact retN X106 hx (t := .boolean) Bd.returns (by simp) (hb hby at_228) hr
    · show Q_rm0 Z p0 q1 zc fm (6 : Int32) vK vM h0 n0 _ T106.heap _
      exact ⟨rfl, N106⟩
theorem own_7 (x : Int32) : ((x &&& (7 : Int32)) % (7 : Int32)) = (0 : Int32) ∨ ((x &&& (7 : Int32)) % (7 : Int32)) = (1 : Int32) ∨ ((x &&& (7 : Int32)) % (7 : Int32)) = (2 : Int32) ∨ ((x &&& (7 : Int32)) % (7 : Int32)) = (3 : Int32) ∨ ((x &&& (7 : Int32)) % (7 : Int32)) = (4 : Int32) ∨ ((x &&& (7 : Int32)) % (7 : Int32)) = (5 : Int32) ∨ ((x &&& (7 : Int32)) % (7 : Int32)) = (6 : Int32) := by
  have h := c_mask x (7 : Int32) 3 (by decide) (by decide)
  have q := (c_irem (x &&& (7 : Int32)) (7 : Int32) 7 (by decide)).1 (by omega)
  have e0 : ((0 : Int32)).toInt = 0 := by decide
  have e1 : ((1 : Int32)).toInt = 1 := by decide
  have e2 : ((2 : Int32)).toInt = 2 := by decide
  have e3 : ((3 : Int32)).toInt = 3 := by decide
  have e4 : ((4 : Int32)).toInt = 4 := by decide
  have e5 : ((5 : Int32)).toInt = 5 := by decide
  have e6 : ((6 : Int32)).toInt = 6 := by decide
  generalize ((x &&& (7 : Int32)) % (7 : Int32)) = z at *
  simp only [← Int32.toInt_inj]
  omega
set_option maxRecDepth 65536 in
set_option maxHeartbeats 40000000 in
theorem comes_1 {Post : Tables → Env → Array Value → State → Outcome → State → Prop} (hpost : ∀ tb e args s v u, (limb_1_1.after args s (.returned v) u = true ∧ limb_1_2.after args s (.returned v) u = true ∧ True) → ReturnedEndW s (.returned v) u (Jvm.fieldLocs frame_1_writes args s ++ Jvm.arrayLocs frame_1_arrays args s ++ Jvm.staticLocs frame_1_statics s) 32 7296 → Post tb e args s (.returned v) u) :
    ArmFor flags0 classFile x code maxLocals ret World_1 tables_1 room_1 Calls_1 rest_1 Pre_1 Post := by
  intro l hfl _ _ p e ha hc hk s m args below hf hA hF happ hP
  obtain ⟨hcalls, hrest, hpre⟩ := hP
  obtain ⟨-, -, -, hnamed, -, -, -, hat⟩ := (Spec.applies_iff hf).mp happ
  obtain ⟨hg, hn⟩ := and_e (Cond.before_iff.mp (show (Jvm.Cond.and given_1 narrow_1).before args s = true from hpre))
  obtain ⟨g1, g2⟩ := and_e hg
  obtain ⟨g3, g4⟩ := and_e g2
  obtain ⟨w0, w1, rfl⟩ : ∃ w0 w1 : Value, args = #[w0, w1] := by
    have hs : args.size = 2 := by simpa [Cond.value, given_1] using g1
    obtain ⟨L⟩ := args
    match L, hs with
    | [w0, w1], _ => exact ⟨w0, w1, rfl⟩
  have hw := fun d (hd : d ∈ tables_1) => atoms_spec (ws := Jvm.Cond.code x code maxLocals ret :: tables_1) hat d (List.mem_cons_of_mem _ hd)
  have hfit : Fit s := fun {y c} hc i hi => by
    obtain ⟨ha, rfl⟩ := Array.getElem?_eq_some_iff.mp hc
    have q := List.all_eq_true.mp ((Array.all_eq_true_iff_forall_mem.mp hF) _ (Array.getElem_mem ha)) i (List.mem_range.mpr hi)
    simpa [Array.getElem?_eq_getElem hi] using q
  obtain ⟨hsets, hown0⟩ := atoms_of _ (rest_1_c_eq ▸ (show rest_1_c.before _ s = true from hrest))
  obtain ⟨i0, ei0⟩ := is_v g3
  obtain rfl : w0 = (.int i0) := Option.some.inj ei0
  obtain ⟨i1, ei1⟩ := isL_v g4
  obtain rfl : w1 = (.long i1) := Option.some.inj ei1
  obtain ⟨zc, ezc⟩ := is_v (Cond.before_iff.mp (hsets _ (List.mem_of_getElem? (i := 1) rfl)))
  have uS := Sta.start ezc (Or.inl (hsets _ (List.mem_of_getElem? (i := 0) rfl)))
  have uP : ¬ zc = 0 := gotF (Cond.eq_ints ezc (Term.int_eval (0))) (not_v (Cond.before_iff.mp (hsets _ (List.mem_of_getElem? (i := 2) rfl))))
  obtain ⟨fm, efm, uR⟩ := isR_v (Cond.before_iff.mp (hsets _ (List.mem_of_getElem? (i := 8) rfl)))
  have uF := Sta.start efm (Or.inl (hsets _ (List.mem_of_getElem? (i := 7) rfl)))
  have hCH : CHv s own_EL s.vm s.heap := CHv.start (own_EW hw) (show Jvm.D.constsHeld consts_1 s from hcalls.1) (hsets _ (List.mem_of_getElem? (i := 2) rfl)) (wd hw 14 rfl) (wd hw 13 rfl)
  obtain ⟨n, o, h1, h2, h3, _, L, rfl, ⟨rfl, N⟩, -, hq⟩ := rm0 l s _ hw tables_1 i0 i1 zc fm _ _ _ s.heap s.heap.size (Nat.le_refl _) (Old.start s) uS uF uP uR rfl rfl rfl (own_7 i0) p e ha hc hk s m _ below hf ((Spec.applies_iff_loose hf).mp happ).1 ⟨rfl, State.Warmed39.refl s, rfl, hCH⟩ trivial
  refine ⟨n, _, h1, h2, h3, hpost _ _ _ _ _ _ ⟨Cond.after_iff.mpr rfl, Cond.after_iff.mpr (eq_i res_at (Term.int_eval (1)) rfl), trivial⟩ ⟨hq.1, hq.2.1, hq.2.2.1, (hq.2.2.2.sift fun y hy => Or.inr (N y hy)).mono (by decide) (by decide)⟩⟩
theorem main_1_1 : Claimed_1_1 := comes_1 fun _ _ _ _ _ _ h hF => ⟨h.1, hF⟩
theorem main_1_2 : Claimed_1_2 := comes_1 fun _ _ _ _ _ _ h hF => ⟨h.2.1, hF⟩
end Jvm.Pilot.@@N@@
namespace Jvm.Pilot.@@N@@
open Jvm Jvm.ClassFile Sem Op Lib Jvm.Free Jvm.Stand Jvm.Pilot.@@N@@.Jvm.D
/-! MADE BY PROGRAM (witnessworld.py) out of the Statement's table words and the real class files: 20 classes; the members and pool entries that the words name. The judged class is class 1, her method 1. -/
namespace start1
open Jvm.ClassFile
def u (s : String) : CpInfo := .utf8 (stringToUtf16 s)
/-- a pool by its gaps: so many unusable entries, then the entry; so many at the end -/
def gap : Nat → List CpInfo → List CpInfo
  | 0, r => r
  | n + 1, r => .unusable :: gap n r
def poolList (es : List (Nat × CpInfo)) (last : Nat) : List CpInfo := es.foldr (fun e r => gap e.1 (e.2 :: r)) (gap last [])
def pool (es : List (Nat × CpInfo)) (last : Nat) : Array CpInfo := ⟨poolList es last⟩
def fileOf (pool : Array CpInfo) (this : Nat) (attrs : Array Attribute := #[]) (ms : Array MethodInfo := #[]) (fl : Nat := 33) (sup : Nat := 0) (ifs : Array Nat := #[]) (fds : Array FieldInfo := #[]) : ClassFile where
  minorVersion := 0
  majorVersion := 65
  constantPool := pool
  accessFlags := fl
  thisClass := this
  superClass := sup
  interfaces := ifs
  fields := fds
  methods := ms
  attributes := attrs
def plain (name : String) (sup : Option ClassId) : Class where
  name := name
  kind := .ordinary
  loader := none
  accessFlags := 33
  super := sup
  interfaces := #[]
  cf := none
  fields := #[]
  methods := #[]
  instanceTypes := #[]
  staticTypes := #[]
  resolved := #[]
  callSites := []
  init := .initialized
  statics := none
  mirror := none

def pool0 : Array CpInfo := pool [(5, u "<init>"), (0, u "()V"), (1, .class_ 10), (1, u "java/lang/Object")] 113

def k0c0 : Code := { maxStack := 0, maxLocals := 1, code := object_method_1_code, exceptionTable := #[], attributes := #[] }
def k0m0 : Method := { name := "<init>", desc := "()V", sig := { parameters := [], returnType := none }, accessFlags := 1, code := some k0c0 }
/-- java/lang/Object -/
def k0 : Class := { plain "java/lang/Object" none with
  accessFlags := 33
  interfaces := #[]
  cf := some (fileOf pool0 8 #[] #[{ accessFlags := 1, nameIndex := 5, descriptorIndex := 6, attributes := #[] }] 33 0 #[] #[])
  fields := #[]
  methods := #[k0m0]
  instanceTypes := #[]
  staticTypes := #[]
  resolved := Array.replicate 124 none
  statics := none }

def pool1 : Array CpInfo := pool [(2, .class_ 4), (1, u "java/lang/Object"), (0, u "<init>"), (0, u "()V"), (0, .methodref 8 9), (0, .class_ 10), (0, .nameAndType 11 12), (0, u "com/example/wireform/wireform/json/JsonIsReservedPinLaw"), (0, u "pick"), (0, u "(IIIJ)C"), (0, .methodref 8 14), (0, .nameAndType 15 16), (0, u "make"), (0, u "(ICCCCCC)Ljava/lang/String;"), (0, .methodref 18 19), (0, .class_ 20), (0, .nameAndType 21 22), (0, u "com/example/wireform/wireform/json/Json"), (0, u "isReserved"), (0, u "(Ljava/lang/String;)Z"), (0, .long 255), (1, .string 26), (0, u "@type"), (0, .methodref 28 29), (0, .class_ 30), (0, .nameAndType 31 32), (0, u "java/lang/String"), (0, u "length"), (0, u "()I"), (0, .methodref 28 34), (0, .nameAndType 35 36), (0, u "charAt"), (0, u "(I)C"), (0, .string 38), (0, u "@id"), (0, .string 40), (0, u "@ref"), (0, .methodref 8 42), (0, .nameAndType 43 44), (0, u "drawn"), (0, u "(IJ)C"), (0, .methodref 8 46), (0, .nameAndType 47 48), (0, u "templ"), (0, u "(II)C"), (0, .methodref 28 50), (0, .nameAndType 5 51), (0, u "([C)V"), (2, u "law"), (0, u "(IJ)Z")] 3

def k1m0 : Method := { name := "<init>", desc := "()V", sig := { parameters := [], returnType := none }, accessFlags := 2, code := none }
def k1c1 : Code := { maxStack := 7, maxLocals := 14, code := code, exceptionTable := #[], attributes := #[] }
def k1m1 : Method := { name := "law", desc := "(IJ)Z", sig := { parameters := [.int, .long], returnType := some .boolean }, accessFlags := 9, code := some k1c1 }
def k1c2 : Code := { maxStack := 4, maxLocals := 3, code := method_3_code, exceptionTable := #[], attributes := #[] }
def k1m2 : Method := { name := "drawn", desc := "(IJ)C", sig := { parameters := [.int, .long], returnType := some .char }, accessFlags := 10, code := some k1c2 }
def k1c3 : Code := { maxStack := 2, maxLocals := 3, code := method_4_code, exceptionTable := #[], attributes := #[] }
def k1m3 : Method := { name := "templ", desc := "(II)C", sig := { parameters := [.int, .int], returnType := some .char }, accessFlags := 10, code := some k1c3 }
def k1c4 : Code := { maxStack := 3, maxLocals := 7, code := method_5_code, exceptionTable := #[], attributes := #[] }
def k1m4 : Method := { name := "pick", desc := "(IIIJ)C", sig := { parameters := [.int, .int, .int, .long], returnType := some .char }, accessFlags := 10, code := some k1c4 }
def k1c5 : Code := { maxStack := 6, maxLocals := 7, code := method_6_code, exceptionTable := #[], attributes := #[] }
def k1m5 : Method := { name := "make", desc := "(ICCCCCC)Ljava/lang/String;", sig := { parameters := [.int, .char, .char, .char, .char, .char, .char], returnType := some (.object "java/lang/String") }, accessFlags := 10, code := some k1c5 }
/-- com/example/wireform/wireform/json/JsonIsReservedPinLaw -/
def k1 : Class := { plain "com/example/wireform/wireform/json/JsonIsReservedPinLaw" (some 0) with
  accessFlags := 49
  interfaces := #[]
  cf := some (fileOf pool1 8 #[] #[{ accessFlags := 2, nameIndex := 5, descriptorIndex := 6, attributes := #[] }, { accessFlags := 9, nameIndex := 54, descriptorIndex := 55, attributes := #[] }, { accessFlags := 10, nameIndex := 43, descriptorIndex := 44, attributes := #[] }, { accessFlags := 10, nameIndex := 47, descriptorIndex := 48, attributes := #[] }, { accessFlags := 10, nameIndex := 11, descriptorIndex := 12, attributes := #[] }, { accessFlags := 10, nameIndex := 15, descriptorIndex := 16, attributes := #[] }] 49 2 #[] #[])
  fields := #[]
  methods := #[k1m0, k1m1, k1m2, k1m3, k1m4, k1m5]
  instanceTypes := #[]
  staticTypes := #[]
  resolved := Array.replicate 59 none
  statics := none }

def pool2 : Array CpInfo := pool [(1, .class_ 2), (0, u "java/io/Serializable"), (0, .class_ 4), (0, u "java/lang/Object")] 2

/-- java/io/Serializable -/
def k2 : Class := { plain "java/io/Serializable" (some 0) with
  accessFlags := 1537
  interfaces := #[]
  cf := some (fileOf pool2 1 #[] #[] 1537 3 #[] #[])
  fields := #[]
  methods := #[]
  instanceTypes := #[]
  staticTypes := #[]
  resolved := Array.replicate 7 none
  statics := none }

def pool3 : Array CpInfo := pool [(1, .class_ 2), (0, u "java/lang/Comparable"), (0, .class_ 4), (0, u "java/lang/Object")] 7

/-- java/lang/Comparable -/
def k3 : Class := { plain "java/lang/Comparable" (some 0) with
  accessFlags := 1537
  interfaces := #[]
  cf := some (fileOf pool3 1 #[] #[] 1537 3 #[] #[])
  fields := #[]
  methods := #[]
  instanceTypes := #[]
  staticTypes := #[]
  resolved := Array.replicate 12 none
  statics := none }

def pool4 : Array CpInfo := pool [(2, .class_ 4), (1, u "java/lang/CharSequence"), (42, .class_ 48), (0, u "java/lang/CharSequence$1CodePointIterator"), (10, .class_ 60), (0, u "java/lang/CharSequence$1CharIterator"), (5, .class_ 67), (0, u "java/lang/Object")] 63

/-- java/lang/CharSequence -/
def k4 : Class := { plain "java/lang/CharSequence" (some 0) with
  accessFlags := 1537
  interfaces := #[]
  cf := some (fileOf pool4 2 #[.nestMembers #[47, 59]] #[] 1537 66 #[] #[])
  fields := #[]
  methods := #[]
  instanceTypes := #[]
  staticTypes := #[]
  resolved := Array.replicate 131 none
  statics := none }

def pool5 : Array CpInfo := pool [(1, .class_ 2), (0, u "java/lang/constant/Constable"), (0, .class_ 4), (0, u "java/lang/Object")] 6

/-- java/lang/constant/Constable -/
def k5 : Class := { plain "java/lang/constant/Constable" (some 0) with
  accessFlags := 1537
  interfaces := #[]
  cf := some (fileOf pool5 1 #[] #[] 1537 3 #[] #[])
  fields := #[]
  methods := #[]
  instanceTypes := #[]
  staticTypes := #[]
  resolved := Array.replicate 11 none
  statics := none }

def pool6 : Array CpInfo := pool [(1, .class_ 2), (0, u "java/lang/constant/ConstantDesc"), (0, .class_ 4), (0, u "java/lang/Object")] 32

/-- java/lang/constant/ConstantDesc -/
def k6 : Class := { plain "java/lang/constant/ConstantDesc" (some 0) with
  accessFlags := 1537
  interfaces := #[]
  cf := some (fileOf pool6 1 #[] #[] 1537 3 #[] #[])
  fields := #[]
  methods := #[]
  instanceTypes := #[]
  staticTypes := #[]
  resolved := Array.replicate 37 none
  statics := none }

def pool7 : Array CpInfo := pool [(1, .methodref 2 3), (0, .class_ 4), (0, .nameAndType 5 6), (0, u "java/lang/Object"), (0, u "<init>"), (0, u "()V"), (0, .string 8), (0, u ""), (0, .fieldref 10 11), (0, .class_ 12), (0, .nameAndType 13 14), (0, u "java/lang/String"), (0, u "value"), (0, u "[B"), (0, .fieldref 10 16), (0, .nameAndType 17 18), (0, u "coder"), (0, u "B"), (2, u "hash"), (0, u "I"), (2, u "hashIsZero"), (0, u "Z"), (0, .methodref 10 28), (0, .nameAndType 5 29), (0, u "([CIILjava/lang/Void;)V"), (8, .fieldref 10 39), (0, .nameAndType 40 26), (0, u "COMPACT_STRINGS"), (1, .class_ 44), (1, u "java/lang/StringUTF16"), (0, u "compress"), (1, .methodref 42 48), (0, .nameAndType 49 50), (0, u "coderFromArrayLen"), (0, u "([BI)B"), (56, .class_ 109), (1, u "java/lang/StringLatin1"), (32, u "()Z"), (34, .methodref 42 178), (0, .nameAndType 45 179), (0, u "([CII)[B"), (154, u "()I"), (0, .methodref 10 336), (0, .nameAndType 17 337), (0, u "()B"), (25, u "([BI)C"), (27, u "(II)V"), (35, u "(I)C"), (64, .methodref 10 493), (0, .nameAndType 494 142), (0, u "isLatin1"), (0, .methodref 107 496), (0, .nameAndType 497 363), (0, u "charAt"), (3, u "checkIndex"), (5, u "length"), (33, .methodref 107 542), (0, .nameAndType 543 544), (0, u "equals"), (0, u "([B[B)Z"), (28, u "(Ljava/lang/Object;)Z"), (1, .class_ 576), (0, u "java/lang/CharSequence"), (22, u "CASE_INSENSITIVE_ORDER"), (0, u "Ljava/util/Comparator;"), (409, u "([C)V"), (42, .fieldref 1054 1055), (0, .class_ 1056), (0, .nameAndType 1057 1058), (0, u "jdk/internal/util/Preconditions"), (0, u "SIOOBE_FORMATTER"), (0, u "Ljava/util/function/BiFunction;"), (0, .methodref 1054 1060), (0, .nameAndType 501 1061), (0, u "(IILjava/util/function/BiFunction;)I"), (39, u "serialPersistentFields"), (0, u "[Ljava/io/ObjectStreamField;"), (0, .class_ 1104), (0, u "java/lang/String$CaseInsensitiveComparator"), (1, .class_ 1107), (0, u "java/io/Serializable"), (0, .class_ 1109), (0, u "java/lang/Comparable"), (0, .class_ 1111), (0, u "java/lang/constant/Constable"), (0, .class_ 1113), (0, u "java/lang/constant/ConstantDesc"), (2, u "serialVersionUID"), (0, u "J"), (3, u "REPL"), (0, u "C"), (2, u "LATIN1"), (1, u "UTF16")] 323

def k7m0 : Method := { name := "<init>", desc := "()V", sig := { parameters := [], returnType := none }, accessFlags := 1, code := none }
def k7c1 : Code := { maxStack := 5, maxLocals := 2, code := jdk_42_method_3_code, exceptionTable := #[], attributes := #[] }
def k7m1 : Method := { name := "<init>", desc := "([C)V", sig := { parameters := [(.array .char)], returnType := none }, accessFlags := 1, code := some k7c1 }
def k7c2 : Code := { maxStack := 2, maxLocals := 1, code := jdk_42_method_54_code, exceptionTable := #[], attributes := #[] }
def k7m2 : Method := { name := "length", desc := "()I", sig := { parameters := [], returnType := some .int }, accessFlags := 1, code := some k7c2 }
def k7c3 : Code := { maxStack := 2, maxLocals := 2, code := jdk_42_method_56_code, exceptionTable := #[], attributes := #[] }
def k7m3 : Method := { name := "charAt", desc := "(I)C", sig := { parameters := [.int], returnType := some .char }, accessFlags := 1, code := some k7c3 }
def k7c4 : Code := { maxStack := 2, maxLocals := 3, code := jdk_42_method_66_code, exceptionTable := #[], attributes := #[] }
def k7m4 : Method := { name := "equals", desc := "(Ljava/lang/Object;)Z", sig := { parameters := [(.object "java/lang/Object")], returnType := some .boolean }, accessFlags := 1, code := some k7c4 }
def k7c5 : Code := { maxStack := 4, maxLocals := 6, code := jdk_42_method_149_code, exceptionTable := #[], attributes := #[] }
def k7m5 : Method := { name := "<init>", desc := "([CIILjava/lang/Void;)V", sig := { parameters := [(.array .char), .int, .int, (.object "java/lang/Void")], returnType := none }, accessFlags := 2, code := some k7c5 }
def k7c6 : Code := { maxStack := 1, maxLocals := 1, code := jdk_42_method_152_code, exceptionTable := #[], attributes := #[] }
def k7m6 : Method := { name := "coder", desc := "()B", sig := { parameters := [], returnType := some .byte }, accessFlags := 0, code := some k7c6 }
def k7c7 : Code := { maxStack := 1, maxLocals := 1, code := jdk_42_method_154_code, exceptionTable := #[], attributes := #[] }
def k7m7 : Method := { name := "isLatin1", desc := "()Z", sig := { parameters := [], returnType := some .boolean }, accessFlags := 0, code := some k7c7 }
def k7c8 : Code := { maxStack := 3, maxLocals := 2, code := jdk_42_method_155_code, exceptionTable := #[], attributes := #[] }
def k7m8 : Method := { name := "checkIndex", desc := "(II)V", sig := { parameters := [.int, .int], returnType := none }, accessFlags := 8, code := some k7c8 }
/-- java/lang/String -/
def k7 : Class := { plain "java/lang/String" (some 0) with
  accessFlags := 49
  interfaces := #[2, 3, 4, 5, 6]
  cf := some (fileOf pool7 10 #[.nestMembers #[1103]] #[{ accessFlags := 1, nameIndex := 5, descriptorIndex := 6, attributes := #[] }, { accessFlags := 1, nameIndex := 5, descriptorIndex := 1010, attributes := #[] }, { accessFlags := 1, nameIndex := 507, descriptorIndex := 334, attributes := #[] }, { accessFlags := 1, nameIndex := 497, descriptorIndex := 427, attributes := #[] }, { accessFlags := 1, nameIndex := 543, descriptorIndex := 573, attributes := #[] }, { accessFlags := 2, nameIndex := 5, descriptorIndex := 29, attributes := #[] }, { accessFlags := 0, nameIndex := 17, descriptorIndex := 337, attributes := #[] }, { accessFlags := 0, nameIndex := 494, descriptorIndex := 142, attributes := #[] }, { accessFlags := 8, nameIndex := 501, descriptorIndex := 391, attributes := #[] }] 49 2 #[1106, 1108, 575, 1110, 1112] #[{ accessFlags := 18, nameIndex := 13, descriptorIndex := 14, attributes := #[] }, { accessFlags := 18, nameIndex := 17, descriptorIndex := 18, attributes := #[] }, { accessFlags := 2, nameIndex := 21, descriptorIndex := 22, attributes := #[] }, { accessFlags := 2, nameIndex := 25, descriptorIndex := 26, attributes := #[] }, { accessFlags := 26, nameIndex := 1116, descriptorIndex := 1117, attributes := #[] }, { accessFlags := 24, nameIndex := 40, descriptorIndex := 26, attributes := #[] }, { accessFlags := 26, nameIndex := 1101, descriptorIndex := 1102, attributes := #[] }, { accessFlags := 26, nameIndex := 1121, descriptorIndex := 1122, attributes := #[] }, { accessFlags := 25, nameIndex := 599, descriptorIndex := 600, attributes := #[] }, { accessFlags := 24, nameIndex := 1125, descriptorIndex := 18, attributes := #[] }, { accessFlags := 24, nameIndex := 1127, descriptorIndex := 18, attributes := #[] }])
  fields := #[{ name := "value", type := (.array .byte), accessFlags := 18, slot := 0, constantValue := 0 }, { name := "coder", type := .byte, accessFlags := 18, slot := 1, constantValue := 0 }, { name := "hash", type := .int, accessFlags := 2, slot := 2, constantValue := 0 }, { name := "hashIsZero", type := .boolean, accessFlags := 2, slot := 3, constantValue := 0 }, { name := "serialVersionUID", type := .long, accessFlags := 26, slot := 0, constantValue := 0 }, { name := "COMPACT_STRINGS", type := .boolean, accessFlags := 24, slot := 1, constantValue := 0 }, { name := "serialPersistentFields", type := (.array (.object "java/io/ObjectStreamField")), accessFlags := 26, slot := 2, constantValue := 0 }, { name := "REPL", type := .char, accessFlags := 26, slot := 3, constantValue := 0 }, { name := "CASE_INSENSITIVE_ORDER", type := (.object "java/util/Comparator"), accessFlags := 25, slot := 4, constantValue := 0 }, { name := "LATIN1", type := .byte, accessFlags := 24, slot := 5, constantValue := 0 }, { name := "UTF16", type := .byte, accessFlags := 24, slot := 6, constantValue := 0 }]
  methods := #[k7m0, k7m1, k7m2, k7m3, k7m4, k7m5, k7m6, k7m7, k7m8]
  instanceTypes := #[(.array .byte), .byte, .int, .boolean]
  staticTypes := #[.long, .boolean, (.array (.object "java/io/ObjectStreamField")), .char, (.object "java/util/Comparator"), .byte, .byte]
  resolved := Array.replicate 1451 none
  statics := some 0 }

def pool8 : Array CpInfo := pool [(1, .class_ 2), (0, u "java/lang/String"), (1, .class_ 6), (1, u "java/lang/Object"), (0, u "<init>"), (0, u "()V"), (0, .methodref 1 10), (0, .nameAndType 11 12), (0, u "checkIndex"), (0, u "(II)V"), (1, .class_ 16), (1, u "java/lang/StringLatin1"), (36, u "([BI)C"), (67, u "$assertionsDisabled"), (0, u "Z"), (98, .class_ 223), (1, u "java/lang/StringLatin1$LinesSpliterator"), (28, u "charAt"), (28, u "equals"), (0, u "([B[B)Z"), (107, .class_ 391), (0, u "java/lang/StringLatin1$CharsSpliterator")] 3

def k8m0 : Method := { name := "<init>", desc := "()V", sig := { parameters := [], returnType := none }, accessFlags := 0, code := none }
def k8c1 : Code := { maxStack := 2, maxLocals := 2, code := jdk_43_method_2_code, exceptionTable := #[], attributes := #[] }
def k8m1 : Method := { name := "charAt", desc := "([BI)C", sig := { parameters := [(.array .byte), .int], returnType := some .char }, accessFlags := 9, code := some k8c1 }
def k8c2 : Code := { maxStack := 3, maxLocals := 3, code := jdk_43_method_13_code, exceptionTable := #[], attributes := #[] }
def k8m2 : Method := { name := "equals", desc := "([B[B)Z", sig := { parameters := [(.array .byte), (.array .byte)], returnType := some .boolean }, accessFlags := 9, code := some k8c2 }
/-- java/lang/StringLatin1 -/
def k8 : Class := { plain "java/lang/StringLatin1" (some 0) with
  accessFlags := 48
  interfaces := #[]
  cf := some (fileOf pool8 14 #[.nestMembers #[390, 221]] #[{ accessFlags := 0, nameIndex := 7, descriptorIndex := 8, attributes := #[] }, { accessFlags := 9, nameIndex := 252, descriptorIndex := 53, attributes := #[] }, { accessFlags := 9, nameIndex := 281, descriptorIndex := 282, attributes := #[] }] 48 4 #[] #[{ accessFlags := 4120, nameIndex := 121, descriptorIndex := 122, attributes := #[] }])
  fields := #[{ name := "$assertionsDisabled", type := .boolean, accessFlags := 4120, slot := 0, constantValue := 0 }]
  methods := #[k8m0, k8m1, k8m2]
  instanceTypes := #[]
  staticTypes := #[.boolean]
  resolved := Array.replicate 395 none
  statics := none }

def pool9 : Array CpInfo := pool [(2, .class_ 4), (1, u "java/lang/Object"), (0, u "<init>"), (0, u "()V"), (17, .class_ 26), (1, u "jdk/internal/util/Preconditions"), (6, u "checkIndex"), (21, .class_ 56), (0, u "jdk/internal/util/Preconditions$4"), (57, .class_ 115), (0, u "jdk/internal/util/Preconditions$1"), (7, u "SIOOBE_FORMATTER"), (0, u "Ljava/util/function/BiFunction;"), (0, .class_ 126), (0, u "jdk/internal/util/Preconditions$2"), (3, u "AIOOBE_FORMATTER"), (0, .class_ 132), (0, u "jdk/internal/util/Preconditions$3"), (3, u "IOOBE_FORMATTER"), (41, u "(IILjava/util/function/BiFunction;)I")] 15

def k9m0 : Method := { name := "<init>", desc := "()V", sig := { parameters := [], returnType := none }, accessFlags := 1, code := none }
def k9c1 : Code := { maxStack := 3, maxLocals := 3, code := jdk_41_method_11_code, exceptionTable := #[], attributes := #[] }
def k9m1 : Method := { name := "checkIndex", desc := "(IILjava/util/function/BiFunction;)I", sig := { parameters := [.int, .int, (.object "java/util/function/BiFunction")], returnType := some .int }, accessFlags := 9, code := some k9c1 }
/-- jdk/internal/util/Preconditions -/
def k9 : Class := { plain "jdk/internal/util/Preconditions" (some 0) with
  accessFlags := 33
  interfaces := #[]
  cf := some (fileOf pool9 24 #[.nestMembers #[55, 131, 125, 114]] #[{ accessFlags := 1, nameIndex := 5, descriptorIndex := 6, attributes := #[] }, { accessFlags := 9, nameIndex := 33, descriptorIndex := 178, attributes := #[] }] 33 2 #[] #[{ accessFlags := 25, nameIndex := 123, descriptorIndex := 124, attributes := #[] }, { accessFlags := 25, nameIndex := 130, descriptorIndex := 124, attributes := #[] }, { accessFlags := 25, nameIndex := 136, descriptorIndex := 124, attributes := #[] }])
  fields := #[{ name := "SIOOBE_FORMATTER", type := (.object "java/util/function/BiFunction"), accessFlags := 25, slot := 0, constantValue := 0 }, { name := "AIOOBE_FORMATTER", type := (.object "java/util/function/BiFunction"), accessFlags := 25, slot := 1, constantValue := 0 }, { name := "IOOBE_FORMATTER", type := (.object "java/util/function/BiFunction"), accessFlags := 25, slot := 2, constantValue := 0 }]
  methods := #[k9m0, k9m1]
  instanceTypes := #[]
  staticTypes := #[(.object "java/util/function/BiFunction"), (.object "java/util/function/BiFunction"), (.object "java/util/function/BiFunction")]
  resolved := Array.replicate 194 none
  statics := some 1 }

def pool10 : Array CpInfo := pool [(2, .class_ 4), (1, u "java/lang/Object"), (0, u "<init>"), (0, u "()V"), (0, .class_ 8), (0, u "com/example/wireform/wireform/json/Json"), (0, .string 10), (0, u "@type"), (0, .methodref 12 13), (0, .class_ 14), (0, .nameAndType 15 16), (0, u "java/lang/String"), (0, u "equals"), (0, u "(Ljava/lang/Object;)Z"), (0, .string 18), (0, u "@id"), (0, .string 20), (0, u "@ref"), (29, u "(Ljava/lang/String;)Z"), (30, u "BASE64_DIGITS"), (0, u "[B"), (40, u "FORMAT"), (0, u "Ljava/lang/String;"), (3, u "TYPE"), (0, u "ID"), (0, u "REF"), (0, u "DATE"), (2, u "TIME"), (2, u "BASE64_ALPHABET"), (2, u "isReserved")] 32

def k10m0 : Method := { name := "<init>", desc := "()V", sig := { parameters := [], returnType := none }, accessFlags := 2, code := none }
def k10c1 : Code := { maxStack := 2, maxLocals := 1, code := prog_22_method_2_code, exceptionTable := #[], attributes := #[] }
def k10m1 : Method := { name := "isReserved", desc := "(Ljava/lang/String;)Z", sig := { parameters := [(.object "java/lang/String")], returnType := some .boolean }, accessFlags := 8, code := some k10c1 }
/-- com/example/wireform/wireform/json/Json -/
def k10 : Class := { plain "com/example/wireform/wireform/json/Json" (some 0) with
  accessFlags := 48
  interfaces := #[]
  cf := some (fileOf pool10 7 #[] #[{ accessFlags := 2, nameIndex := 5, descriptorIndex := 6, attributes := #[] }, { accessFlags := 8, nameIndex := 140, descriptorIndex := 50, attributes := #[] }] 48 2 #[] #[{ accessFlags := 24, nameIndex := 123, descriptorIndex := 124, attributes := #[] }, { accessFlags := 24, nameIndex := 128, descriptorIndex := 124, attributes := #[] }, { accessFlags := 24, nameIndex := 129, descriptorIndex := 124, attributes := #[] }, { accessFlags := 24, nameIndex := 130, descriptorIndex := 124, attributes := #[] }, { accessFlags := 24, nameIndex := 131, descriptorIndex := 124, attributes := #[] }, { accessFlags := 24, nameIndex := 134, descriptorIndex := 124, attributes := #[] }, { accessFlags := 26, nameIndex := 137, descriptorIndex := 124, attributes := #[] }, { accessFlags := 26, nameIndex := 81, descriptorIndex := 82, attributes := #[] }])
  fields := #[{ name := "FORMAT", type := (.object "java/lang/String"), accessFlags := 24, slot := 0, constantValue := 0 }, { name := "TYPE", type := (.object "java/lang/String"), accessFlags := 24, slot := 1, constantValue := 0 }, { name := "ID", type := (.object "java/lang/String"), accessFlags := 24, slot := 2, constantValue := 0 }, { name := "REF", type := (.object "java/lang/String"), accessFlags := 24, slot := 3, constantValue := 0 }, { name := "DATE", type := (.object "java/lang/String"), accessFlags := 24, slot := 4, constantValue := 0 }, { name := "TIME", type := (.object "java/lang/String"), accessFlags := 24, slot := 5, constantValue := 0 }, { name := "BASE64_ALPHABET", type := (.object "java/lang/String"), accessFlags := 26, slot := 6, constantValue := 0 }, { name := "BASE64_DIGITS", type := (.array .byte), accessFlags := 26, slot := 7, constantValue := 0 }]
  methods := #[k10m0, k10m1]
  instanceTypes := #[]
  staticTypes := #[(.object "java/lang/String"), (.object "java/lang/String"), (.object "java/lang/String"), (.object "java/lang/String"), (.object "java/lang/String"), (.object "java/lang/String"), (.object "java/lang/String"), (.array .byte)]
  resolved := Array.replicate 173 none
  statics := none }

def pool11 : Array CpInfo := pool [(6, .class_ 8), (1, u "java/lang/Object"), (0, u "<init>"), (0, u "()V"), (1, .class_ 14), (1, u "java/lang/StringUTF16"), (31, u "$assertionsDisabled"), (0, u "Z"), (13, u "HI_BYTE_SHIFT"), (0, u "I"), (2, u "LO_BYTE_SHIFT"), (49, .methodref 12 116), (0, .nameAndType 117 118), (0, u "compress"), (0, u "([CI[BII)I"), (3, u "([CII)[B"), (138, u "coderFromArrayLen"), (0, u "([BI)B"), (106, .class_ 371), (1, u "java/lang/StringUTF16$LinesSpliterator"), (58, u "MAX_LENGTH"), (196, .class_ 628), (0, u "java/lang/StringUTF16$CodePointsSpliterator"), (0, .class_ 630), (0, u "java/lang/StringUTF16$CharsSpliterator")] 4

def k11m0 : Method := { name := "<init>", desc := "()V", sig := { parameters := [], returnType := none }, accessFlags := 0, code := none }
def k11c1 : Code := { maxStack := 2, maxLocals := 2, code := jdk_52_method_15_code, exceptionTable := #[], attributes := #[] }
def k11m1 : Method := { name := "coderFromArrayLen", desc := "([BI)B", sig := { parameters := [(.array .byte), .int], returnType := some .byte }, accessFlags := 8, code := some k11c1 }
def k11c2 : Code := { maxStack := 5, maxLocals := 6, code := jdk_52_method_16_code, exceptionTable := #[], attributes := #[] }
def k11m2 : Method := { name := "compress", desc := "([CII)[B", sig := { parameters := [(.array .char), .int, .int], returnType := some (.array .byte) }, accessFlags := 9, code := some k11c2 }
def k11c3 : Code := { maxStack := 3, maxLocals := 7, code := jdk_52_method_21_code, exceptionTable := #[], attributes := #[] }
def k11m3 : Method := { name := "compress", desc := "([CI[BII)I", sig := { parameters := [(.array .char), .int, (.array .byte), .int, .int], returnType := some .int }, accessFlags := 9, code := some k11c3 }
/-- java/lang/StringUTF16 -/
def k11 : Class := { plain "java/lang/StringUTF16" (some 0) with
  accessFlags := 48
  interfaces := #[]
  cf := some (fileOf pool11 12 #[.nestMembers #[627, 629, 369]] #[{ accessFlags := 0, nameIndex := 9, descriptorIndex := 10, attributes := #[] }, { accessFlags := 8, nameIndex := 261, descriptorIndex := 262, attributes := #[] }, { accessFlags := 9, nameIndex := 117, descriptorIndex := 122, attributes := #[] }, { accessFlags := 9, nameIndex := 117, descriptorIndex := 118, attributes := #[] }] 48 6 #[] #[{ accessFlags := 26, nameIndex := 61, descriptorIndex := 62, attributes := #[] }, { accessFlags := 26, nameIndex := 65, descriptorIndex := 62, attributes := #[] }, { accessFlags := 24, nameIndex := 430, descriptorIndex := 62, attributes := #[] }, { accessFlags := 4120, nameIndex := 46, descriptorIndex := 47, attributes := #[] }])
  fields := #[{ name := "HI_BYTE_SHIFT", type := .int, accessFlags := 26, slot := 0, constantValue := 0 }, { name := "LO_BYTE_SHIFT", type := .int, accessFlags := 26, slot := 1, constantValue := 0 }, { name := "MAX_LENGTH", type := .int, accessFlags := 24, slot := 2, constantValue := 0 }, { name := "$assertionsDisabled", type := .boolean, accessFlags := 4120, slot := 3, constantValue := 0 }]
  methods := #[k11m0, k11m1, k11m2, k11m3]
  instanceTypes := #[]
  staticTypes := #[.int, .int, .int, .boolean]
  resolved := Array.replicate 635 none
  statics := none }

def pool12 : Array CpInfo := pool [(9, u "<init>"), (6, .class_ 18), (1, u "java/lang/Object"), (0, u "()V"), (1, .class_ 23), (1, u "jdk/internal/util/ArraysSupport"), (0, u "LOG2_ARRAY_LONG_INDEX_SCALE"), (0, u "I"), (2, u "U"), (0, u "Ljdk/internal/misc/Unsafe;"), (8, u "BIG_ENDIAN"), (0, u "Z"), (8, u "LOG2_BYTE_BIT_SIZE"), (4, u "LOG2_ARRAY_INT_INDEX_SCALE"), (54, u "JLA"), (0, u "Ljdk/internal/access/JavaLangAccess;"), (11, u "LOG2_ARRAY_BOOLEAN_INDEX_SCALE"), (9, u "LOG2_ARRAY_BYTE_INDEX_SCALE"), (5, u "LOG2_ARRAY_CHAR_INDEX_SCALE"), (5, u "LOG2_ARRAY_SHORT_INDEX_SCALE"), (18, u "LOG2_ARRAY_FLOAT_INDEX_SCALE"), (24, u "LOG2_ARRAY_DOUBLE_INDEX_SCALE"), (89, u "T_BOOLEAN"), (2, u "T_CHAR"), (1, u "T_FLOAT"), (1, u "T_DOUBLE"), (1, u "T_BYTE"), (1, u "T_SHORT"), (1, u "T_INT"), (1, u "T_LONG"), (1, u "SOFT_MAX_ARRAY_LENGTH")] 83

def k12m0 : Method := { name := "<init>", desc := "()V", sig := { parameters := [], returnType := none }, accessFlags := 2, code := none }
/-- jdk/internal/util/ArraysSupport -/
def k12 : Class := { plain "jdk/internal/util/ArraysSupport" (some 0) with
  accessFlags := 33
  interfaces := #[]
  cf := some (fileOf pool12 21 #[] #[{ accessFlags := 2, nameIndex := 9, descriptorIndex := 19, attributes := #[] }] 33 16 #[] #[{ accessFlags := 24, nameIndex := 28, descriptorIndex := 29, attributes := #[] }, { accessFlags := 26, nameIndex := 38, descriptorIndex := 39, attributes := #[] }, { accessFlags := 25, nameIndex := 121, descriptorIndex := 25, attributes := #[] }, { accessFlags := 25, nameIndex := 131, descriptorIndex := 25, attributes := #[] }, { accessFlags := 25, nameIndex := 137, descriptorIndex := 25, attributes := #[] }, { accessFlags := 25, nameIndex := 143, descriptorIndex := 25, attributes := #[] }, { accessFlags := 25, nameIndex := 53, descriptorIndex := 25, attributes := #[] }, { accessFlags := 25, nameIndex := 24, descriptorIndex := 25, attributes := #[] }, { accessFlags := 25, nameIndex := 162, descriptorIndex := 25, attributes := #[] }, { accessFlags := 25, nameIndex := 187, descriptorIndex := 25, attributes := #[] }, { accessFlags := 26, nameIndex := 48, descriptorIndex := 25, attributes := #[] }, { accessFlags := 25, nameIndex := 277, descriptorIndex := 25, attributes := #[] }, { accessFlags := 25, nameIndex := 280, descriptorIndex := 25, attributes := #[] }, { accessFlags := 25, nameIndex := 282, descriptorIndex := 25, attributes := #[] }, { accessFlags := 25, nameIndex := 284, descriptorIndex := 25, attributes := #[] }, { accessFlags := 25, nameIndex := 286, descriptorIndex := 25, attributes := #[] }, { accessFlags := 25, nameIndex := 288, descriptorIndex := 25, attributes := #[] }, { accessFlags := 25, nameIndex := 290, descriptorIndex := 25, attributes := #[] }, { accessFlags := 25, nameIndex := 292, descriptorIndex := 25, attributes := #[] }, { accessFlags := 26, nameIndex := 108, descriptorIndex := 109, attributes := #[] }, { accessFlags := 25, nameIndex := 294, descriptorIndex := 25, attributes := #[] }])
  fields := #[{ name := "U", type := (.object "jdk/internal/misc/Unsafe"), accessFlags := 24, slot := 0, constantValue := 0 }, { name := "BIG_ENDIAN", type := .boolean, accessFlags := 26, slot := 1, constantValue := 0 }, { name := "LOG2_ARRAY_BOOLEAN_INDEX_SCALE", type := .int, accessFlags := 25, slot := 2, constantValue := 0 }, { name := "LOG2_ARRAY_BYTE_INDEX_SCALE", type := .int, accessFlags := 25, slot := 3, constantValue := 0 }, { name := "LOG2_ARRAY_CHAR_INDEX_SCALE", type := .int, accessFlags := 25, slot := 4, constantValue := 0 }, { name := "LOG2_ARRAY_SHORT_INDEX_SCALE", type := .int, accessFlags := 25, slot := 5, constantValue := 0 }, { name := "LOG2_ARRAY_INT_INDEX_SCALE", type := .int, accessFlags := 25, slot := 6, constantValue := 0 }, { name := "LOG2_ARRAY_LONG_INDEX_SCALE", type := .int, accessFlags := 25, slot := 7, constantValue := 0 }, { name := "LOG2_ARRAY_FLOAT_INDEX_SCALE", type := .int, accessFlags := 25, slot := 8, constantValue := 0 }, { name := "LOG2_ARRAY_DOUBLE_INDEX_SCALE", type := .int, accessFlags := 25, slot := 9, constantValue := 0 }, { name := "LOG2_BYTE_BIT_SIZE", type := .int, accessFlags := 26, slot := 10, constantValue := 0 }, { name := "T_BOOLEAN", type := .int, accessFlags := 25, slot := 11, constantValue := 0 }, { name := "T_CHAR", type := .int, accessFlags := 25, slot := 12, constantValue := 0 }, { name := "T_FLOAT", type := .int, accessFlags := 25, slot := 13, constantValue := 0 }, { name := "T_DOUBLE", type := .int, accessFlags := 25, slot := 14, constantValue := 0 }, { name := "T_BYTE", type := .int, accessFlags := 25, slot := 15, constantValue := 0 }, { name := "T_SHORT", type := .int, accessFlags := 25, slot := 16, constantValue := 0 }, { name := "T_INT", type := .int, accessFlags := 25, slot := 17, constantValue := 0 }, { name := "T_LONG", type := .int, accessFlags := 25, slot := 18, constantValue := 0 }, { name := "JLA", type := (.object "jdk/internal/access/JavaLangAccess"), accessFlags := 26, slot := 19, constantValue := 0 }, { name := "SOFT_MAX_ARRAY_LENGTH", type := .int, accessFlags := 25, slot := 20, constantValue := 0 }]
  methods := #[k12m0]
  instanceTypes := #[]
  staticTypes := #[(.object "jdk/internal/misc/Unsafe"), .boolean, .int, .int, .int, .int, .int, .int, .int, .int, .int, .int, .int, .int, .int, .int, .int, .int, .int, (.object "jdk/internal/access/JavaLangAccess"), .int]
  resolved := Array.replicate 378 none
  statics := none }

def pool13 : Array CpInfo := pool [(1, u "java/lang/Cloneable"), (0, .class_ 1), (0, u "java/lang/Object"), (0, .class_ 3)] 3

/-- java/lang/Cloneable -/
def k13 : Class := { plain "java/lang/Cloneable" (some 0) with
  accessFlags := 1537
  interfaces := #[]
  cf := some (fileOf pool13 2 #[] #[] 1537 4 #[] #[])
  fields := #[]
  methods := #[]
  instanceTypes := #[]
  staticTypes := #[]
  resolved := Array.replicate 8 none
  statics := none }

/-- the primitive byte -/
def k14 : Class := { plain "byte" none with kind := .primitive 'B', accessFlags := 0x411 }
/-- [B -/
def k15 : Class := { plain "[B" (some 0) with kind := .array 14 .byte, interfaces := #[13, 2], accessFlags := 1041 }

/-- the primitive char -/
def k16 : Class := { plain "char" none with kind := .primitive 'C', accessFlags := 0x411 }
/-- [C -/
def k17 : Class := { plain "[C" (some 0) with kind := .array 16 .char, interfaces := #[13, 2], accessFlags := 1041 }

/-- the primitive int -/
def k18 : Class := { plain "int" none with kind := .primitive 'I', accessFlags := 0x411 }
/-- [I -/
def k19 : Class := { plain "[I" (some 0) with kind := .array 18 .int, interfaces := #[13, 2], accessFlags := 1041 }

def heap : Heap := #[{ cls := 7, slots := #[.long 0, .int 1, .null, .int 0, .null, .int 0, .int 0], vm := .statics 7 },
  { cls := 9, slots := #[.null, .null, .null], vm := .statics 9 }]
def classes : Array Class := #[k0, k1, k2, k3, k4, k5, k6, k7, k8, k9, k10, k11, k12, k13, k14, k15, k16, k17, k18, k19]
def interned : List (Array UInt16 × Addr) := []
def slotsUsed : Nat := 10
def theMethod : MethodId := ⟨1, 1⟩
def args0 : Array Value := #[.int 5, .long 6]
def aboutOver (below : List Frame) : State where
  vm := { classes := classes, interned := interned.toArray }
  heap := heap
  slotsUsed := slotsUsed
  threads := #[{ frames := .invoking theMethod args0 :: below }]
def below0 : List Frame := [.native { method := ⟨0, 0⟩, args := #[] }]
def about1 : State := aboutOver below0
def p0 : Program := .bare "" "" ""
def e0 : Env := launch0.env 0 0 0
theorem w_frames : about1.frames = Frame.invoking theMethod args0 :: below0 := rfl
set_option maxRecDepth 65536 in
theorem w_args : argsFit about1.vm theMethod args0 = true := by decide +kernel
set_option maxRecDepth 65536 in
theorem w_heap : heapFits about1 = true := by decide +kernel
set_option maxRecDepth 65536 in
theorem w_runnable : about1.curStatus? = some .runnable := by decide +kernel
set_option maxRecDepth 65536 in
theorem w_alone : about1.alone = true := by decide +kernel
set_option maxRecDepth 65536 in
theorem w_named : about1.methodNamed? x = some theMethod := by decide +kernel
set_option maxRecDepth 65536 in
theorem w_hears : about1.hears theMethod below0 = true := by decide +kernel
set_option maxRecDepth 65536 in
theorem w_ripe : about1.ripe theMethod args0 below0 = true := by decide +kernel
theorem w_running : about1.status = .running := rfl
set_option maxRecDepth 65536 in
theorem w_room : about1.hasRoom e0.platform room_1 = true :=
  launch0.hasRoom_least _ room_1 (by decide +kernel) (by decide +kernel) (by decide +kernel) (by decide +kernel) (by decide +kernel) (by decide +kernel)
theorem allAtoms_all (ts : List Jvm.Cond) (a : Array Jvm.Value) (st : Jvm.State) : (allAtoms ts).before a st = ts.all (fun c => c.before a st) := by
  induction ts with
  | nil => rfl
  | cons c t ih =>
    show (Jvm.Cond.and c (allAtoms t)).before a st = _
    rw [Jvm.Cond.before_and, ih, List.all_cons]
def words1 : List Jvm.Cond := Jvm.Cond.code x code maxLocals ret :: tables_1
/-- a 'code' word, met by the world's own term for the bytes: nothing is compared byte by byte -/
theorem code_word {y : MethodName} {bytes : ByteArray} {mx : Nat} {rt : Option FieldType} {a : Array Value} {s : State} {m : MethodId} {meth : Method} {c : Code} (h1 : s.methodNamed? y = some m) (h2 : s.vm.method? m = some meth) (h3 : meth.code = some c) (h4 : c.code = bytes)
    (h5 : (c.maxLocals == mx && c.exceptionTable.isEmpty && decide (c.maxStack ≤ mostOperands) && decide (meth.sig.returnType = rt) && !meth.locks && decide (parseMethodDescriptor y.desc = some meth.sig)) = true) : (Jvm.Cond.code y bytes mx rt).before a s = true := by
  simp only [Bool.and_eq_true, beq_iff_eq, Bool.not_eq_true', decide_eq_true_eq] at h5
  obtain ⟨⟨⟨⟨⟨g1, g2⟩, g3⟩, g4⟩, g5⟩, g6⟩ := h5
  simp [Cond.before, Cond.holds, Cond.value, h1, h2, h3, h4, g1, g2, g3, g4, g5, g6]
def isCode : Jvm.Cond → Bool
  | .code _ _ _ _ => true
  | _ => false
theorem all_split {L : List Jvm.Cond} {P : Jvm.Cond → Bool} (h1 : L.all (fun c => isCode c || P c) = true) (h2 : ∀ c ∈ L.filter isCode, P c = true) : L.all P = true := by
  refine List.all_eq_true.mpr fun c hc => ?_
  have h := List.all_eq_true.mp h1 c hc
  rcases Bool.eq_false_or_eq_true (isCode c) with hi | hi
  · exact h2 c (List.mem_filter.mpr ⟨hc, hi⟩)
  · simpa [hi] using h
set_option maxRecDepth 65536 in
theorem w_c0 : (Jvm.Cond.code x code maxLocals ret).before args0 about1 = true := code_word (m := ⟨1, 1⟩) (meth := k1m1) (c := k1c1) (by decide +kernel) rfl rfl rfl (by decide +kernel)
set_option maxRecDepth 65536 in
theorem w_c1 : (Jvm.Cond.code ({ cls := "com/example/wireform/wireform/json/JsonIsReservedPinLaw", name := "pick", desc := "(IIIJ)C" } : Jvm.MethodName) method_5_code (7 : Nat) (Option.some Jvm.ClassFile.FieldType.char)).before args0 about1 = true := code_word (m := ⟨1, 4⟩) (meth := k1m4) (c := k1c4) (by decide +kernel) rfl rfl rfl (by decide +kernel)
set_option maxRecDepth 65536 in
theorem w_c2 : (Jvm.Cond.code ({ cls := "com/example/wireform/wireform/json/JsonIsReservedPinLaw", name := "drawn", desc := "(IJ)C" } : Jvm.MethodName) method_3_code (3 : Nat) (Option.some Jvm.ClassFile.FieldType.char)).before args0 about1 = true := code_word (m := ⟨1, 2⟩) (meth := k1m2) (c := k1c2) (by decide +kernel) rfl rfl rfl (by decide +kernel)
set_option maxRecDepth 65536 in
theorem w_c3 : (Jvm.Cond.code ({ cls := "com/example/wireform/wireform/json/JsonIsReservedPinLaw", name := "templ", desc := "(II)C" } : Jvm.MethodName) method_4_code (3 : Nat) (Option.some Jvm.ClassFile.FieldType.char)).before args0 about1 = true := code_word (m := ⟨1, 3⟩) (meth := k1m3) (c := k1c3) (by decide +kernel) rfl rfl rfl (by decide +kernel)
set_option maxRecDepth 65536 in
theorem w_c4 : (Jvm.Cond.code ({ cls := "java/lang/String", name := "length", desc := "()I" } : Jvm.MethodName) jdk_42_method_54_code (1 : Nat) (Option.some Jvm.ClassFile.FieldType.int)).before args0 about1 = true := code_word (m := ⟨7, 2⟩) (meth := k7m2) (c := k7c2) (by decide +kernel) rfl rfl rfl (by decide +kernel)
set_option maxRecDepth 65536 in
theorem w_c5 : (Jvm.Cond.code ({ cls := "java/lang/String", name := "coder", desc := "()B" } : Jvm.MethodName) jdk_42_method_152_code (1 : Nat) (Option.some Jvm.ClassFile.FieldType.byte)).before args0 about1 = true := code_word (m := ⟨7, 6⟩) (meth := k7m6) (c := k7c6) (by decide +kernel) rfl rfl rfl (by decide +kernel)
set_option maxRecDepth 65536 in
theorem w_c6 : (Jvm.Cond.code ({ cls := "java/lang/String", name := "charAt", desc := "(I)C" } : Jvm.MethodName) jdk_42_method_56_code (2 : Nat) (Option.some Jvm.ClassFile.FieldType.char)).before args0 about1 = true := code_word (m := ⟨7, 3⟩) (meth := k7m3) (c := k7c3) (by decide +kernel) rfl rfl rfl (by decide +kernel)
set_option maxRecDepth 65536 in
theorem w_c7 : (Jvm.Cond.code ({ cls := "java/lang/String", name := "isLatin1", desc := "()Z" } : Jvm.MethodName) jdk_42_method_154_code (1 : Nat) (Option.some Jvm.ClassFile.FieldType.boolean)).before args0 about1 = true := code_word (m := ⟨7, 7⟩) (meth := k7m7) (c := k7c7) (by decide +kernel) rfl rfl rfl (by decide +kernel)
set_option maxRecDepth 65536 in
theorem w_c8 : (Jvm.Cond.code ({ cls := "java/lang/StringLatin1", name := "charAt", desc := "([BI)C" } : Jvm.MethodName) jdk_43_method_2_code (2 : Nat) (Option.some Jvm.ClassFile.FieldType.char)).before args0 about1 = true := code_word (m := ⟨8, 1⟩) (meth := k8m1) (c := k8c1) (by decide +kernel) rfl rfl rfl (by decide +kernel)
set_option maxRecDepth 65536 in
theorem w_c9 : (Jvm.Cond.code ({ cls := "java/lang/String", name := "checkIndex", desc := "(II)V" } : Jvm.MethodName) jdk_42_method_155_code (2 : Nat) (Option.none : Option Jvm.ClassFile.FieldType)).before args0 about1 = true := code_word (m := ⟨7, 8⟩) (meth := k7m8) (c := k7c8) (by decide +kernel) rfl rfl rfl (by decide +kernel)
set_option maxRecDepth 65536 in
theorem w_c10 : (Jvm.Cond.code ({ cls := "jdk/internal/util/Preconditions", name := "checkIndex", desc := "(IILjava/util/function/BiFunction;)I" } : Jvm.MethodName) jdk_41_method_11_code (3 : Nat) (Option.some Jvm.ClassFile.FieldType.int)).before args0 about1 = true := code_word (m := ⟨9, 1⟩) (meth := k9m1) (c := k9c1) (by decide +kernel) rfl rfl rfl (by decide +kernel)
set_option maxRecDepth 65536 in
theorem w_c11 : (Jvm.Cond.code ({ cls := "com/example/wireform/wireform/json/JsonIsReservedPinLaw", name := "make", desc := "(ICCCCCC)Ljava/lang/String;" } : Jvm.MethodName) method_6_code (7 : Nat) (Option.some (Jvm.ClassFile.FieldType.object "java/lang/String"))).before args0 about1 = true := code_word (m := ⟨1, 5⟩) (meth := k1m5) (c := k1c5) (by decide +kernel) rfl rfl rfl (by decide +kernel)
set_option maxRecDepth 65536 in
theorem w_c12 : (Jvm.Cond.code ({ cls := "java/lang/String", name := "<init>", desc := "([C)V" } : Jvm.MethodName) jdk_42_method_3_code (2 : Nat) (Option.none : Option Jvm.ClassFile.FieldType)).before args0 about1 = true := code_word (m := ⟨7, 1⟩) (meth := k7m1) (c := k7c1) (by decide +kernel) rfl rfl rfl (by decide +kernel)
set_option maxRecDepth 65536 in
theorem w_c13 : (Jvm.Cond.code ({ cls := "java/lang/String", name := "<init>", desc := "([CIILjava/lang/Void;)V" } : Jvm.MethodName) jdk_42_method_149_code (6 : Nat) (Option.none : Option Jvm.ClassFile.FieldType)).before args0 about1 = true := code_word (m := ⟨7, 5⟩) (meth := k7m5) (c := k7c5) (by decide +kernel) rfl rfl rfl (by decide +kernel)
set_option maxRecDepth 65536 in
theorem w_c14 : (Jvm.Cond.code ({ cls := "java/lang/Object", name := "<init>", desc := "()V" } : Jvm.MethodName) object_method_1_code (1 : Nat) (Option.none : Option Jvm.ClassFile.FieldType)).before args0 about1 = true := code_word (m := ⟨0, 0⟩) (meth := k0m0) (c := k0c0) (by decide +kernel) rfl rfl rfl (by decide +kernel)
set_option maxRecDepth 65536 in
theorem w_c15 : (Jvm.Cond.code ({ cls := "com/example/wireform/wireform/json/Json", name := "isReserved", desc := "(Ljava/lang/String;)Z" } : Jvm.MethodName) prog_22_method_2_code (1 : Nat) (Option.some Jvm.ClassFile.FieldType.boolean)).before args0 about1 = true := code_word (m := ⟨10, 1⟩) (meth := k10m1) (c := k10c1) (by decide +kernel) rfl rfl rfl (by decide +kernel)
set_option maxRecDepth 65536 in
theorem w_c16 : (Jvm.Cond.code ({ cls := "java/lang/String", name := "equals", desc := "(Ljava/lang/Object;)Z" } : Jvm.MethodName) jdk_42_method_66_code (3 : Nat) (Option.some Jvm.ClassFile.FieldType.boolean)).before args0 about1 = true := code_word (m := ⟨7, 4⟩) (meth := k7m4) (c := k7c4) (by decide +kernel) rfl rfl rfl (by decide +kernel)
set_option maxRecDepth 65536 in
theorem w_c17 : (Jvm.Cond.code ({ cls := "java/lang/StringLatin1", name := "equals", desc := "([B[B)Z" } : Jvm.MethodName) jdk_43_method_13_code (3 : Nat) (Option.some Jvm.ClassFile.FieldType.boolean)).before args0 about1 = true := code_word (m := ⟨8, 2⟩) (meth := k8m2) (c := k8c2) (by decide +kernel) rfl rfl rfl (by decide +kernel)
set_option maxRecDepth 65536 in
theorem w_c18 : (Jvm.Cond.code ({ cls := "java/lang/StringUTF16", name := "compress", desc := "([CII)[B" } : Jvm.MethodName) jdk_52_method_16_code (6 : Nat) (Option.some (Jvm.ClassFile.FieldType.array Jvm.ClassFile.FieldType.byte))).before args0 about1 = true := code_word (m := ⟨11, 2⟩) (meth := k11m2) (c := k11c2) (by decide +kernel) rfl rfl rfl (by decide +kernel)
set_option maxRecDepth 65536 in
theorem w_c19 : (Jvm.Cond.code ({ cls := "java/lang/StringUTF16", name := "compress", desc := "([CI[BII)I" } : Jvm.MethodName) jdk_52_method_21_code (7 : Nat) (Option.some Jvm.ClassFile.FieldType.int)).before args0 about1 = true := code_word (m := ⟨11, 3⟩) (meth := k11m3) (c := k11c3) (by decide +kernel) rfl rfl rfl (by decide +kernel)
set_option maxRecDepth 65536 in
theorem w_c20 : (Jvm.Cond.code ({ cls := "java/lang/StringUTF16", name := "coderFromArrayLen", desc := "([BI)B" } : Jvm.MethodName) jdk_52_method_15_code (2 : Nat) (Option.some Jvm.ClassFile.FieldType.byte)).before args0 about1 = true := code_word (m := ⟨11, 1⟩) (meth := k11m1) (c := k11c1) (by decide +kernel) rfl rfl rfl (by decide +kernel)
def codes1 : List Jvm.Cond := [Jvm.Cond.code x code maxLocals ret, Jvm.Cond.code ({ cls := "com/example/wireform/wireform/json/JsonIsReservedPinLaw", name := "pick", desc := "(IIIJ)C" } : Jvm.MethodName) method_5_code (7 : Nat) (Option.some Jvm.ClassFile.FieldType.char), Jvm.Cond.code ({ cls := "com/example/wireform/wireform/json/JsonIsReservedPinLaw", name := "drawn", desc := "(IJ)C" } : Jvm.MethodName) method_3_code (3 : Nat) (Option.some Jvm.ClassFile.FieldType.char), Jvm.Cond.code ({ cls := "com/example/wireform/wireform/json/JsonIsReservedPinLaw", name := "templ", desc := "(II)C" } : Jvm.MethodName) method_4_code (3 : Nat) (Option.some Jvm.ClassFile.FieldType.char), Jvm.Cond.code ({ cls := "java/lang/String", name := "length", desc := "()I" } : Jvm.MethodName) jdk_42_method_54_code (1 : Nat) (Option.some Jvm.ClassFile.FieldType.int), Jvm.Cond.code ({ cls := "java/lang/String", name := "coder", desc := "()B" } : Jvm.MethodName) jdk_42_method_152_code (1 : Nat) (Option.some Jvm.ClassFile.FieldType.byte), Jvm.Cond.code ({ cls := "java/lang/String", name := "charAt", desc := "(I)C" } : Jvm.MethodName) jdk_42_method_56_code (2 : Nat) (Option.some Jvm.ClassFile.FieldType.char), Jvm.Cond.code ({ cls := "java/lang/String", name := "isLatin1", desc := "()Z" } : Jvm.MethodName) jdk_42_method_154_code (1 : Nat) (Option.some Jvm.ClassFile.FieldType.boolean), Jvm.Cond.code ({ cls := "java/lang/StringLatin1", name := "charAt", desc := "([BI)C" } : Jvm.MethodName) jdk_43_method_2_code (2 : Nat) (Option.some Jvm.ClassFile.FieldType.char), Jvm.Cond.code ({ cls := "java/lang/String", name := "checkIndex", desc := "(II)V" } : Jvm.MethodName) jdk_42_method_155_code (2 : Nat) (Option.none : Option Jvm.ClassFile.FieldType), Jvm.Cond.code ({ cls := "jdk/internal/util/Preconditions", name := "checkIndex", desc := "(IILjava/util/function/BiFunction;)I" } : Jvm.MethodName) jdk_41_method_11_code (3 : Nat) (Option.some Jvm.ClassFile.FieldType.int), Jvm.Cond.code ({ cls := "com/example/wireform/wireform/json/JsonIsReservedPinLaw", name := "make", desc := "(ICCCCCC)Ljava/lang/String;" } : Jvm.MethodName) method_6_code (7 : Nat) (Option.some (Jvm.ClassFile.FieldType.object "java/lang/String")), Jvm.Cond.code ({ cls := "java/lang/String", name := "<init>", desc := "([C)V" } : Jvm.MethodName) jdk_42_method_3_code (2 : Nat) (Option.none : Option Jvm.ClassFile.FieldType), Jvm.Cond.code ({ cls := "java/lang/String", name := "<init>", desc := "([CIILjava/lang/Void;)V" } : Jvm.MethodName) jdk_42_method_149_code (6 : Nat) (Option.none : Option Jvm.ClassFile.FieldType), Jvm.Cond.code ({ cls := "java/lang/Object", name := "<init>", desc := "()V" } : Jvm.MethodName) object_method_1_code (1 : Nat) (Option.none : Option Jvm.ClassFile.FieldType), Jvm.Cond.code ({ cls := "com/example/wireform/wireform/json/Json", name := "isReserved", desc := "(Ljava/lang/String;)Z" } : Jvm.MethodName) prog_22_method_2_code (1 : Nat) (Option.some Jvm.ClassFile.FieldType.boolean), Jvm.Cond.code ({ cls := "java/lang/String", name := "equals", desc := "(Ljava/lang/Object;)Z" } : Jvm.MethodName) jdk_42_method_66_code (3 : Nat) (Option.some Jvm.ClassFile.FieldType.boolean), Jvm.Cond.code ({ cls := "java/lang/StringLatin1", name := "equals", desc := "([B[B)Z" } : Jvm.MethodName) jdk_43_method_13_code (3 : Nat) (Option.some Jvm.ClassFile.FieldType.boolean), Jvm.Cond.code ({ cls := "java/lang/StringUTF16", name := "compress", desc := "([CII)[B" } : Jvm.MethodName) jdk_52_method_16_code (6 : Nat) (Option.some (Jvm.ClassFile.FieldType.array Jvm.ClassFile.FieldType.byte)), Jvm.Cond.code ({ cls := "java/lang/StringUTF16", name := "compress", desc := "([CI[BII)I" } : Jvm.MethodName) jdk_52_method_21_code (7 : Nat) (Option.some Jvm.ClassFile.FieldType.int), Jvm.Cond.code ({ cls := "java/lang/StringUTF16", name := "coderFromArrayLen", desc := "([BI)B" } : Jvm.MethodName) jdk_52_method_15_code (2 : Nat) (Option.some Jvm.ClassFile.FieldType.byte)]
set_option maxRecDepth 65536 in
theorem codes_eq : words1.filter isCode = codes1 := rfl
theorem w_codes : ∀ c ∈ words1.filter isCode, c.before args0 about1 = true := by
  rw [codes_eq]
  intro c hc
  simp only [codes1, List.mem_cons, List.not_mem_nil, or_false] at hc
  rcases hc with rfl | rfl | rfl | rfl | rfl | rfl | rfl | rfl | rfl | rfl | rfl | rfl | rfl | rfl | rfl | rfl | rfl | rfl | rfl | rfl | rfl
  · exact w_c0
  · exact w_c1
  · exact w_c2
  · exact w_c3
  · exact w_c4
  · exact w_c5
  · exact w_c6
  · exact w_c7
  · exact w_c8
  · exact w_c9
  · exact w_c10
  · exact w_c11
  · exact w_c12
  · exact w_c13
  · exact w_c14
  · exact w_c15
  · exact w_c16
  · exact w_c17
  · exact w_c18
  · exact w_c19
  · exact w_c20
set_option maxRecDepth 65536 in
theorem w_t1 : (words1.take 24).all (fun c => isCode c || c.before args0 about1) = true := by decide +kernel
set_option maxRecDepth 65536 in
theorem w_t2 : ((words1.drop 24).take 24).all (fun c => isCode c || c.before args0 about1) = true := by decide +kernel
set_option maxRecDepth 65536 in
theorem w_t3 : (((words1.drop 24).drop 24).take 24).all (fun c => isCode c || c.before args0 about1) = true := by decide +kernel
set_option maxRecDepth 65536 in
theorem w_t4 : ((((words1.drop 24).drop 24).drop 24).take 24).all (fun c => isCode c || c.before args0 about1) = true := by decide +kernel
set_option maxRecDepth 65536 in
theorem w_t5 : ((((words1.drop 24).drop 24).drop 24).drop 24).all (fun c => isCode c || c.before args0 about1) = true := by decide +kernel
theorem w_tables : (allAtoms (Jvm.Cond.code x code maxLocals ret :: tables_1)).before args0 about1 = true := by
  rw [allAtoms_all]
  show words1.all (fun c => c.before args0 about1) = true
  refine all_split ?_ w_codes
  rw [← List.take_append_drop 24 words1, List.all_append, w_t1, ← List.take_append_drop 24 (words1.drop 24), List.all_append, w_t2, ← List.take_append_drop 24 ((words1.drop 24).drop 24), List.all_append, w_t3, ← List.take_append_drop 24 (((words1.drop 24).drop 24).drop 24), List.all_append, w_t4, w_t5]
  rfl
set_option maxRecDepth 65536 in
theorem w_rest : rest_1_c.before args0 about1 = true := by decide +kernel
set_option maxRecDepth 65536 in
theorem w_case : (Jvm.Cond.and given_1 narrow_1).before args0 about1 = true := by decide +kernel
set_option maxRecDepth 65536 in
theorem w_consts : constsHeld consts_1 about1 := Jvm.Lit.constsHeldB_iff.mp (by decide +kernel)
theorem w_applies : (headSpec (Jvm.Cond.code x code maxLocals ret :: tables_1) room_1).applies x e0.platform about1 = true :=
  (Spec.applies_iff w_frames).mpr ⟨w_running, w_runnable, w_alone, w_named, w_hears, w_ripe, w_room, w_tables⟩
theorem atStart : AtStart classFile x code maxLocals ret World_1 tables_1 room_1 Calls_1 rest_1 Pre_1 launch0 p0 e0 about1 theMethod args0 below0 :=
  ⟨lists_1, trivial, launch0.admits_env _ _ _, launch0.least_env, fairChoices_fair.cas, fairChoices_fair.clock, w_frames, w_args, w_heap, w_applies, ⟨w_consts, trivial⟩, w_rest, w_case⟩
end start1
theorem witness_1 : WitnessClaimed_1 := ⟨start1.p0, start1.e0, start1.about1, start1.theMethod, start1.args0, start1.below0, start1.atStart⟩
end Jvm.Pilot.@@N@@
