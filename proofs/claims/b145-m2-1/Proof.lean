import JvmDerived
import JvmDerived.Pilot.@@N@@Statement
import JvmDerived.Pilot.@@N@@Code
set_option linter.unusedVariables false
set_option linter.unusedSimpArgs false
/- laws to paste: Road.backV (cut by pick.py; bodies as the Statement names them) -/
namespace Jvm.Pilot.@@N@@
namespace StrChars
open Jvm Sem ClassFile Op Lib Jvm.Stand Jvm.Free.XT Jvm.Free.ALB Jvm.Free.JM Jvm.Free
open Jvm.Lib.Cold (StaticIs)
/-- a char array whose places are chars -/
def Ch (a : Addr) (A : Cell) (U : State) : Prop := Arr .char a A U ∧ Typed .char A
theorem Ch.mv {a : Addr} {A : Cell} {U U' : State} (h : Ch a A U) (hal : U.vm.Alike U'.vm) (hh : U'.heap = U.heap) : Ch a A U' := ⟨h.1.mv hal hh, h.2⟩
theorem Ch.keep {a : Addr} {A : Cell} {U U' : State} (h : Ch a A U) (hal : U.vm.Alike U'.vm) (hk : U'.heap[a]? = some A) : Ch a A U' := ⟨h.1.keep hal hk, h.2⟩
/-- what place i of a char[]'s cell holds -/
def cv (A : Cell) (i : Nat) : Int32 := match A.slots[i]? with | some (.int x) => x | _ => 0
theorem Ch.get {a : Addr} {A : Cell} {U : State} (h : Ch a A U) {i : Nat} (hi : i < A.slots.size) : A.slots[i]? = some (.int (cv A i)) := by
  have e := Array.getElem?_eq_getElem hi
  have f := h.2 i _ e
  unfold cv; rw [e]
  generalize A.slots[i] = v at f
  cases v <;> simp [fits] at f ⊢
/-- the byte that i2b leaves of a char -/
def lo8 (x : Int32) : Int32 := x.toInt8.toInt32
theorem fits_lo8 (y : Int32) : fits .byte (.int (lo8 y)) = true := by
  have h1 := y.toInt8.le_toInt
  have h2 := y.toInt8.toInt_lt
  simp only [lo8, fits, Bool.and_eq_true, decide_eq_true_eq, Int32.le_iff_toInt_le, Int8.toInt_toInt32, show (-128 : Int32).toInt = -128 from by decide, show (127 : Int32).toInt = 127 from by decide]
  omega
/-- A' is A but that each place j of lo .. hi - 1 holds f j -/
def Laid (A A' : Cell) (lo hi : Nat) (f : Nat → Value) : Prop := A'.cls = A.cls ∧ A'.vm = A.vm ∧ A'.slots.size = A.slots.size ∧ ∀ i, A'.slots[i]? = if lo ≤ i ∧ i < hi then some (f i) else A.slots[i]?
theorem Laid.zero (A : Cell) (lo : Nat) (f : Nat → Value) : Laid A A lo (lo + 0) f := ⟨rfl, rfl, rfl, fun i => by rw [if_neg (by omega)]⟩
theorem Laid.step {A Ak : Cell} {lo k : Nat} {f : Nat → Value} {v : Value} (h : Laid A Ak lo k f) (hlo : lo ≤ k) (hk : k < Ak.slots.size) (hv : v = f k) : Laid A (Ak.setSlot k v) lo (k + 1) f := by
  refine ⟨h.1, h.2.1, by simpa [Cell.setSlot] using h.2.2.1, fun i => ?_⟩
  by_cases e : k = i
  · subst e; rw [Cell.slots_setSlot_self v hk, if_pos (by omega), hv]
  · rw [Cell.slots_setSlot_ne v e, h.2.2.2 i]
    by_cases q : lo ≤ i ∧ i < k
    · rw [if_pos q, if_pos (by omega)]
    · rw [if_neg q, if_neg (by omega)]
def U16 : String := "java/lang/StringUTF16"
namespace Cmp5
def yN : MethodName := ⟨"java/lang/StringUTF16", "compress", "([CI[BII)I"⟩
abbrev yB : ByteArray := jdk_52_method_21_code
theorem d0 : decode yB 0 = .ok (.iconst 0, 1) := by decide +kernel
theorem d1 : decode yB 1 = .ok (.istore 5, 2) := by decide +kernel
theorem d3 : decode yB 3 = .ok (.iload 5, 2) := by decide +kernel
theorem d5 : decode yB 5 = .ok (.iload 4, 2) := by decide +kernel
theorem d7 : decode yB 7 = .ok (.if_icmp (.ge) 37, 3) := by decide +kernel
theorem d10 : decode yB 10 = .ok (.aload_n 0, 1) := by decide +kernel
theorem d11 : decode yB 11 = .ok (.iload_n 1, 1) := by decide +kernel
theorem d12 : decode yB 12 = .ok (.caload, 1) := by decide +kernel
theorem d13 : decode yB 13 = .ok (.istore 6, 2) := by decide +kernel
theorem d15 : decode yB 15 = .ok (.iload 6, 2) := by decide +kernel
theorem d17 : decode yB 17 = .ok (.sipush 255, 3) := by decide +kernel
theorem d20 : decode yB 20 = .ok (.if_icmp (.le) 6, 3) := by decide +kernel
theorem d26 : decode yB 26 = .ok (.aload_n 2, 1) := by decide +kernel
theorem d27 : decode yB 27 = .ok (.iload_n 3, 1) := by decide +kernel
theorem d28 : decode yB 28 = .ok (.iload 6, 2) := by decide +kernel
theorem d30 : decode yB 30 = .ok (.i2b, 1) := by decide +kernel
theorem d31 : decode yB 31 = .ok (.bastore, 1) := by decide +kernel
theorem d32 : decode yB 32 = .ok (.iinc 1 1, 3) := by decide +kernel
theorem d35 : decode yB 35 = .ok (.iinc 3 1, 3) := by decide +kernel
theorem d38 : decode yB 38 = .ok (.iinc 5 1, 3) := by decide +kernel
theorem d41 : decode yB 41 = .ok (.goto (-38), 3) := by decide +kernel
theorem d44 : decode yB 44 = .ok (.iload 4, 2) := by decide +kernel
theorem d46 : decode yB 46 = .ok (.ireturn, 1) := by decide +kernel
def site : List Cond := []
def tab : Cond := tabOf yN yB 7 (some .int) site
def P (b : Addr) (A : Cell) (d : Addr) (B : Cell) (o q len : Nat) (args : Array Value) (s : State) : Prop := args = #[.ref b, .int (Int32.ofNat o), .ref d, .int (Int32.ofNat q), .int (Int32.ofNat len)] ∧ Ch b A s ∧ Arr .byte d B s ∧ b ≠ d ∧ o + len ≤ A.slots.size ∧ q + len ≤ B.slots.size ∧ ∀ i, i < len → ¬ 255 < cv A (o + i)
def E (b : Addr) (A : Cell) (d : Addr) (B : Cell) (o q len : Nat) (r : Option Value) (s u : State) : Prop := r = some (.int (Int32.ofNat len)) ∧ ∃ B', Put d B' s u ∧ Laid B B' q (q + len) (fun j => Value.int (lo8 (cv A (o + (j - q)))))
/-- no char of the range above 255: len; the places written hold each char's low byte -/
theorem law (l : Launch) (b : Addr) (A : Cell) (d : Addr) (B : Cell) (o q len : Nat) : Law l yN 5 5 0 0 yB 7 (some .int) site (P b A d B o q len) (E b A d B o q len) (copyLocs d q len) 0 0 := by
  refine Law.of_walk (plainFor_of_name (by decide +kernel)) (by decide +kernel) (by decide +kernel) (by decide) (fun _ _ h => by rw [h.1]; rfl) (fun _ U U' hal hh h => ⟨h.1, h.2.1.mv hal hh, h.2.2.1.mv hal hh, h.2.2.2⟩) (fun r U U' V V' h1 hal h2 h => ⟨h.1, h.2.elim fun B' q => ⟨B', q.1.mv h1 h2, q.2⟩⟩) ?_
  intro p e s m args below meth c s₁ X0 hexec hbytes hml hret hlk hnm hown hh0 W hP
  obtain ⟨rfl, hA, hB, hne, l1, l2, hp⟩ := hP
  have c1 : Steps p.tables e below (s₁.setTop (entryFrame m #[.ref b, .int (Int32.ofNat o), .ref d, .int (Int32.ofNat q), .int (Int32.ofNat len)] 7)) (s₁.setTop (mkF m 0 #[.val (.ref b), .val (.int (Int32.ofNat o)), .val (.ref d), .val (.int (Int32.ofNat q)), .val (.int (Int32.ofNat len)), .unset, .unset] [])) := entry rfl
  have hA0 := hA.1.mv X0.warmed.alike hh0
  have hB0 := hB.mv X0.warmed.alike hh0
  have a31 := hA.1.2.2.2
  have c2 : Steps p.tables e below (s₁.setTop (entryFrame m #[.ref b, .int (Int32.ofNat o), .ref d, .int (Int32.ofNat q), .int (Int32.ofNat len)] 7)) (s₁.setTop (mkF m 3 #[.val (.ref b), .val (.int (Int32.ofNat o)), .val (.ref d), .val (.int (Int32.ofNat q)), .val (.int (Int32.ofNat len)), .val (.int 0), .unset] [])) := c1.trans (by
    refine iconstV X0.here hexec rfl 0 (hb hbytes d0) (by decide) ?_
    refine XS.istore X0.here hexec rfl (hb hbytes d1) rfl rfl ?_
    exact Steps.refl _)
  have loop : ∀ (r i : Nat), i + r = len → ∀ (z : Slot), (z = .unset ∨ ∃ w, z = .val w ∧ w.category = 1) → ∀ (Tl : State) (Bk : Cell), Stand p l e { frames := 0, locals := 0, cells := 0, slots := 0 } s m #[.ref b, .int (Int32.ofNat o), .ref d, .int (Int32.ofNat q), .int (Int32.ofNat len)] below meth c Tl ([] ++ copyLocs d q i) 0 0 → Put d Bk s₁ Tl → Laid B Bk q (q + i) (fun j => Value.int (lo8 (cv A (o + (j - q))))) →
      Steps p.tables e below (s₁.setTop (entryFrame m #[.ref b, .int (Int32.ofNat o), .ref d, .int (Int32.ofNat q), .int (Int32.ofNat len)] 7)) (Tl.setTop (mkF m 3 #[.val (.ref b), .val (.int (Int32.ofNat (o + i))), .val (.ref d), .val (.int (Int32.ofNat (q + i))), .val (.int (Int32.ofNat len)), .val (.int (Int32.ofNat i)), z] [])) → ∃ (T' : State) (B' : Cell) (z' : Slot), Stand p l e { frames := 0, locals := 0, cells := 0, slots := 0 } s m #[.ref b, .int (Int32.ofNat o), .ref d, .int (Int32.ofNat q), .int (Int32.ofNat len)] below meth c T' ([] ++ copyLocs d q len) 0 0 ∧ Put d B' s₁ T' ∧ Laid B B' q (q + len) (fun j => Value.int (lo8 (cv A (o + (j - q))))) ∧
      Steps p.tables e below (s₁.setTop (entryFrame m #[.ref b, .int (Int32.ofNat o), .ref d, .int (Int32.ofNat q), .int (Int32.ofNat len)] 7)) (T'.setTop (mkF m 3 #[.val (.ref b), .val (.int (Int32.ofNat (o + len))), .val (.ref d), .val (.int (Int32.ofNat (q + len))), .val (.int (Int32.ofNat len)), .val (.int (Int32.ofNat len)), z'] [])) := by
    intro r
    induction r with
    | zero =>
      intro i hi z hz Tl Bk Xl pl fl cl
      have hil : i = len := by omega
      rw [hil] at Xl fl cl
      exact ⟨Tl, Bk, z, Xl, pl, fl, cl⟩
    | succ r ih =>
      intro i hi z hz Tl Bk Xl pl fl cl
      have all := X0.warmed.alike.symm.trans Xl.warmed.alike
      have hAl := hA0.keep all (pl.other hne hA0.1)
      have hBk := hB0.like all pl.1 fl.1 fl.2.1 fl.2.2.1
      have hlt : q + i < Bk.slots.size := by rw [fl.2.2.1]; omega
      have c3 : Steps p.tables e below (s₁.setTop (entryFrame m #[.ref b, .int (Int32.ofNat o), .ref d, .int (Int32.ofNat q), .int (Int32.ofNat len)] 7)) (Tl.setTop (mkF m 12 #[.val (.ref b), .val (.int (Int32.ofNat (o + i))), .val (.ref d), .val (.int (Int32.ofNat (q + i))), .val (.int (Int32.ofNat len)), .val (.int (Int32.ofNat i)), z] [.int (Int32.ofNat (o + i)), .ref b])) := cl.trans (by
        refine XS.iload Xl.here hexec rfl (hb hbytes d3) rfl ?_
        refine XS.iload Xl.here hexec rfl (hb hbytes d5) rfl ?_
        refine XS.icmpNo Xl.here hexec rfl (hb hbytes d7) rfl (ii_ge_f (lt32 (by omega) (by omega))) ?_
        refine XS.aloadN Xl.here hexec rfl (hb hbytes d10) rfl rfl ?_
        refine XS.iloadN Xl.here hexec rfl (hb hbytes d11) rfl ?_
        exact Steps.refl _)
      have c4 : Steps p.tables e below (s₁.setTop (entryFrame m #[.ref b, .int (Int32.ofNat o), .ref d, .int (Int32.ofNat q), .int (Int32.ofNat len)] 7)) (Tl.setTop (mkF m 13 #[.val (.ref b), .val (.int (Int32.ofNat (o + i))), .val (.ref d), .val (.int (Int32.ofNat (q + i))), .val (.int (Int32.ofNat len)), .val (.int (Int32.ofNat i)), z] [.int (cv A (o + i))])) := c3.trans (by
        refine Xl.aget hexec hAl rfl (hA.get (i := o + i) (by omega)) rfl rfl (hb hbytes d12) ?_
        exact Steps.refl _)
      have c5 : Steps p.tables e below (s₁.setTop (entryFrame m #[.ref b, .int (Int32.ofNat o), .ref d, .int (Int32.ofNat q), .int (Int32.ofNat len)] 7)) (Tl.setTop (mkF m 15 #[.val (.ref b), .val (.int (Int32.ofNat (o + i))), .val (.ref d), .val (.int (Int32.ofNat (q + i))), .val (.int (Int32.ofNat len)), .val (.int (Int32.ofNat i)), .val (.int (cv A (o + i)))] [])) := c4.trans (by
        refine XS.istoreS Xl.here hexec rfl (hb hbytes d13) rfl rfl hz ?_
        exact Steps.refl _)
      have c6 : Steps p.tables e below (s₁.setTop (entryFrame m #[.ref b, .int (Int32.ofNat o), .ref d, .int (Int32.ofNat q), .int (Int32.ofNat len)] 7)) (Tl.setTop (mkF m 31 #[.val (.ref b), .val (.int (Int32.ofNat (o + i))), .val (.ref d), .val (.int (Int32.ofNat (q + i))), .val (.int (Int32.ofNat len)), .val (.int (Int32.ofNat i)), .val (.int (cv A (o + i)))] [.int (lo8 (cv A (o + i))), .int (Int32.ofNat (q + i)), .ref d])) := c5.trans (by
        refine XS.iload Xl.here hexec rfl (hb hbytes d15) rfl ?_
        refine sipushV Xl.here hexec rfl 255 (hb hbytes d17) (by decide) ?_
        refine XS.icmpYes Xl.here hexec rfl (pc0 := 20) rfl (hb hbytes d20) rfl (ii_le_t (hp i (by omega))) (by decide) rfl ?_
        refine XS.aloadN Xl.here hexec rfl (hb hbytes d26) rfl rfl ?_
        refine XS.iloadN Xl.here hexec rfl (hb hbytes d27) rfl ?_
        refine XS.iload Xl.here hexec rfl (hb hbytes d28) rfl ?_
        refine i2b Xl.here hexec rfl (hb hbytes d30) rfl ?_
        exact Steps.refl _)
      obtain ⟨T7, X7, p7, st7⟩ := Xl.aput hexec hBk rfl hlt rfl (fits_lo8 (cv A (o + i))) (g := (mkF m 31 #[.val (.ref b), .val (.int (Int32.ofNat (o + i))), .val (.ref d), .val (.int (Int32.ofNat (q + i))), .val (.int (Int32.ofNat len)), .val (.int (Int32.ofNat i)), .val (.int (cv A (o + i)))] [.int (lo8 (cv A (o + i))), .int (Int32.ofNat (q + i)), .ref d])) rfl (rest := []) rfl (hb hbytes d31)
      have c8 : Steps p.tables e below (s₁.setTop (entryFrame m #[.ref b, .int (Int32.ofNat o), .ref d, .int (Int32.ofNat q), .int (Int32.ofNat len)] 7)) (T7.setTop (mkF m 32 #[.val (.ref b), .val (.int (Int32.ofNat (o + i))), .val (.ref d), .val (.int (Int32.ofNat (q + i))), .val (.int (Int32.ofNat len)), .val (.int (Int32.ofNat i)), .val (.int (cv A (o + i)))] [])) := c6.trans (st7 _ (Steps.refl _))
      have c9 : Steps p.tables e below (s₁.setTop (entryFrame m #[.ref b, .int (Int32.ofNat o), .ref d, .int (Int32.ofNat q), .int (Int32.ofNat len)] 7)) (T7.setTop (mkF m 3 #[.val (.ref b), .val (.int (Int32.ofNat (o + i) + 1)), .val (.ref d), .val (.int (Int32.ofNat (q + i) + 1)), .val (.int (Int32.ofNat len)), .val (.int (Int32.ofNat i + 1)), .val (.int (cv A (o + i)))] [])) := c8.trans (by
        refine iincV X7.here hexec rfl 1 (hb hbytes d32) (by decide) rfl rfl ?_
        refine iincV X7.here hexec rfl 1 (hb hbytes d35) (by decide) rfl rfl ?_
        refine iincV X7.here hexec rfl 1 (hb hbytes d38) (by decide) rfl rfl ?_
        refine XS.goto X7.here hexec rfl (pc0 := 41) rfl (hb hbytes d41) (by decide) rfl ?_
        exact Steps.refl _)
      have c10 : Steps p.tables e below (s₁.setTop (entryFrame m #[.ref b, .int (Int32.ofNat o), .ref d, .int (Int32.ofNat q), .int (Int32.ofNat len)] 7)) (T7.setTop (mkF m 3 #[.val (.ref b), .val (.int (Int32.ofNat (o + (i + 1)))), .val (.ref d), .val (.int (Int32.ofNat (q + (i + 1)))), .val (.int (Int32.ofNat len)), .val (.int (Int32.ofNat (i + 1))), .val (.int (cv A (o + i)))] [])) := by
        have := c9
        rw [succ32, succ32, succ32] at this
        exact this
      exact ih (i + 1) (by omega) _ (Or.inr ⟨_, rfl, rfl⟩) T7 _ (by rw [copyLocs_step, ← List.append_assoc]; exact X7) (pl.trans p7) (fl.step (by omega) hlt (by simp)) c10
  obtain ⟨T9, B9, z9, X9, p9, f9, g9⟩ := loop len 0 (by omega) .unset (Or.inl rfl) s₁ B (by simpa [copyLocs] using X0) ⟨hB0.1, fun _ _ => rfl, rfl⟩ (Laid.zero _ _ _) c2
  have c11 : Steps p.tables e below (s₁.setTop (entryFrame m #[.ref b, .int (Int32.ofNat o), .ref d, .int (Int32.ofNat q), .int (Int32.ofNat len)] 7)) (T9.setTop (mkF m 46 #[.val (.ref b), .val (.int (Int32.ofNat (o + len))), .val (.ref d), .val (.int (Int32.ofNat (q + len))), .val (.int (Int32.ofNat len)), .val (.int (Int32.ofNat len)), z9] [.int (Int32.ofNat len)])) := g9.trans (by
    refine XS.iload X9.here hexec rfl (hb hbytes d3) rfl ?_
    refine XS.iload X9.here hexec rfl (hb hbytes d5) rfl ?_
    refine XS.icmpYes X9.here hexec rfl (pc0 := 7) rfl (hb hbytes d7) rfl (ii_ge_t (nlt32 (by omega) (Nat.le_refl _))) (by decide) rfl ?_
    refine XS.iload X9.here hexec rfl (hb hbytes d44) rfl ?_
    exact Steps.refl _)
  exact ⟨T9, some (.int (Int32.ofNat len)), _, _, _, X9, by simp, rfl, rfl, (fun h => by cases h), ⟨rfl, B9, p9.from hh0, f9⟩, fun fs hl => c11.trans (X9.ireturnOut hexec hret rfl (Or.inl rfl) (hb hbytes d46) hl)⟩
end Cmp5
namespace Cmp3
def yN : MethodName := ⟨"java/lang/StringUTF16", "compress", "([CII)[B"⟩
abbrev yB : ByteArray := jdk_52_method_16_code
theorem d0 : decode yB 0 = .ok (.iload_n 2, 1) := by decide +kernel
theorem d1 : decode yB 1 = .ok (.newarray .byte, 2) := by decide +kernel
theorem d3 : decode yB 3 = .ok (.astore_n 3, 1) := by decide +kernel
theorem d4 : decode yB 4 = .ok (.aload_n 0, 1) := by decide +kernel
theorem d5 : decode yB 5 = .ok (.iload_n 1, 1) := by decide +kernel
theorem d6 : decode yB 6 = .ok (.aload_n 3, 1) := by decide +kernel
theorem d7 : decode yB 7 = .ok (.iconst 0, 1) := by decide +kernel
theorem d8 : decode yB 8 = .ok (.iload_n 2, 1) := by decide +kernel
theorem d9 : decode yB 9 = .ok (.invokestatic 115, 3) := by decide +kernel
theorem d12 : decode yB 12 = .ok (.istore 4, 2) := by decide +kernel
theorem d14 : decode yB 14 = .ok (.iload 4, 2) := by decide +kernel
theorem d16 : decode yB 16 = .ok (.iload_n 2, 1) := by decide +kernel
theorem d17 : decode yB 17 = .ok (.if_icmp (.eq) 40, 3) := by decide +kernel
theorem d57 : decode yB 57 = .ok (.aload_n 3, 1) := by decide +kernel
theorem d58 : decode yB 58 = .ok (.areturn, 1) := by decide +kernel
def site : List Cond := [.arrayClass .byte, Cmp5.tab] ++ staticW U16 115 Cmp5.yN
def tab : Cond := tabOf yN yB 6 (some (.array .byte)) site
def P (b : Addr) (A : Cell) (o len : Nat) (args : Array Value) (s : State) : Prop := args = #[.ref b, .int (Int32.ofNat o), .int (Int32.ofNat len)] ∧ Ch b A s ∧ o + len ≤ A.slots.size ∧ len ≤ 536870912 ∧ ∀ i, i < len → ¬ 255 < cv A (o + i)
def E (b : Addr) (A : Cell) (o len : Nat) (r : Option Value) (s u : State) : Prop := NewArr .byte "[B" len (fun j => .int (lo8 (cv A (o + j)))) r s u ∧ u.heap.size = s.heap.size + 1
/-- no char of the range above 255: a new byte[] of their low bytes -/
theorem law (l : Launch) (b : Addr) (A : Cell) (o len : Nat) : Law l yN 3 3 1 18 yB 6 (some (.array .byte)) site (P b A o len) (E b A o len) [] 1 len := by
  refine Law.of_walk (plainFor_of_name (by decide +kernel)) (by decide +kernel) (by decide +kernel) (by decide) (fun _ _ h => by rw [h.1]; rfl) (fun _ U U' hal hh h => ⟨h.1, h.2.1.mv hal hh, h.2.2⟩) (fun r U U' V V' h1 hal h2 h => ⟨NewArr.mv r U U' V V' h1 hal h2 h.1, by rw [h1, h2]; exact h.2⟩) ?_
  intro p e s m args below meth c s₁ X0 hexec hbytes hml hret hlk hnm hown hh0 W hP
  obtain ⟨rfl, hA, l1, l2, hp⟩ := hP
  have a31 := hA.1.2.2.2
  have c1 : Steps p.tables e below (s₁.setTop (entryFrame m #[.ref b, .int (Int32.ofNat o), .int (Int32.ofNat len)] 6)) (s₁.setTop (mkF m 0 #[.val (.ref b), .val (.int (Int32.ofNat o)), .val (.int (Int32.ofNat len)), .unset, .unset, .unset] [])) := entry rfl
  have c2 : Steps p.tables e below (s₁.setTop (entryFrame m #[.ref b, .int (Int32.ofNat o), .int (Int32.ofNat len)] 6)) (s₁.setTop (mkF m 1 #[.val (.ref b), .val (.int (Int32.ofNat o)), .val (.int (Int32.ofNat len)), .unset, .unset, .unset] [.int (Int32.ofNat len)])) := c1.trans (by
    refine XS.iloadN X0.here hexec rfl (hb hbytes d0) rfl ?_
    exact Steps.refl _)
  obtain ⟨T3, B3, X3, ba3, bs3, bv3, bh3, bf3, st3⟩ := X0.anew hexec (atype := .byte) (wk W (.arrayClass .byte)) rfl (by show len * 1 ≤ _; omega) (by omega) (g := (mkF m 1 #[.val (.ref b), .val (.int (Int32.ofNat o)), .val (.int (Int32.ofNat len)), .unset, .unset, .unset] [.int (Int32.ofNat len)])) rfl (hb hbytes d1) (rest := []) rfl (Nat.le_refl _) (by show 0 + len ≤ len; omega)
  rw [hh0] at ba3 st3
  have kp3 : XT.Kept s T3 := (XT.Kept.of_eq hh0).push bh3
  have hA3 := hA.keep X3.warmed.alike (kp3 _ _ hA.1.1)
  have hne : b ≠ s.heap.size := hA.1.ne
  have c4 : Steps p.tables e below (s₁.setTop (entryFrame m #[.ref b, .int (Int32.ofNat o), .int (Int32.ofNat len)] 6)) (T3.setTop (mkF m 3 #[.val (.ref b), .val (.int (Int32.ofNat o)), .val (.int (Int32.ofNat len)), .unset, .unset, .unset] [.ref s.heap.size])) := c2.trans (st3 _ (Steps.refl _))
  have c5 : Steps p.tables e below (s₁.setTop (entryFrame m #[.ref b, .int (Int32.ofNat o), .int (Int32.ofNat len)] 6)) (T3.setTop (mkF m 9 #[.val (.ref b), .val (.int (Int32.ofNat o)), .val (.int (Int32.ofNat len)), .val (.ref s.heap.size), .unset, .unset] [.int (Int32.ofNat len), .int 0, .ref s.heap.size, .int (Int32.ofNat o), .ref b])) := c4.trans (by
    refine XS.astoreN X3.here hexec rfl (hb hbytes d3) rfl rfl rfl ?_
    refine XS.aloadN X3.here hexec rfl (hb hbytes d4) rfl rfl ?_
    refine XS.iloadN X3.here hexec rfl (hb hbytes d5) rfl ?_
    refine XS.aloadN X3.here hexec rfl (hb hbytes d6) rfl rfl ?_
    refine iconstV X3.here hexec rfl 0 (hb hbytes d7) (by decide) ?_
    refine XS.iloadN X3.here hexec rfl (hb hbytes d8) rfl ?_
    exact Steps.refl _)
  obtain ⟨v6, T6, X6, E6, g6⟩ := X3.callS hexec (Cmp5.law l b A s.heap.size B3 o 0 len) hown (wks W (staticW U16 115 Cmp5.yN)) (wk W Cmp5.tab) (W := 0) (Nat.le_of_ble_eq_true rfl) (Nat.le_of_ble_eq_true rfl) (Nat.le_refl _) (by show 0 + len + 0 ≤ len; omega) (g := (mkF m 9 #[.val (.ref b), .val (.int (Int32.ofNat o)), .val (.int (Int32.ofNat len)), .val (.ref s.heap.size), .unset, .unset] [.int (Int32.ofNat len), .int (Int32.ofNat 0), .ref s.heap.size, .int (Int32.ofNat o), .ref b])) rfl (by rw [hml]; rfl) c5 (argsL := [.ref b, .int (Int32.ofNat o), .ref s.heap.size, .int (Int32.ofNat 0), .int (Int32.ofNat len)]) (rest := []) rfl rfl (by show 2 * 0 + 0 ≤ _; decide) (hb hbytes d9) (⟨rfl, hA3, ba3, hne, l1, by rw [bs3]; simp, hp⟩)
  obtain ⟨rfl, B6, p6, f6⟩ := E6
  have c7 : Steps p.tables e below (s₁.setTop (entryFrame m #[.ref b, .int (Int32.ofNat o), .int (Int32.ofNat len)] 6)) (T6.setTop (mkF m 12 #[.val (.ref b), .val (.int (Int32.ofNat o)), .val (.int (Int32.ofNat len)), .val (.ref s.heap.size), .unset, .unset] [.int (Int32.ofNat len)])) := g6
  have c8 : Steps p.tables e below (s₁.setTop (entryFrame m #[.ref b, .int (Int32.ofNat o), .int (Int32.ofNat len)] 6)) (T6.setTop (mkF m 58 #[.val (.ref b), .val (.int (Int32.ofNat o)), .val (.int (Int32.ofNat len)), .val (.ref s.heap.size), .val (.int (Int32.ofNat len)), .unset] [.ref s.heap.size])) := c7.trans (by
    refine XS.istore X6.here hexec rfl (hb hbytes d12) rfl rfl ?_
    refine XS.iload X6.here hexec rfl (hb hbytes d14) rfl ?_
    refine XS.iloadN X6.here hexec rfl (hb hbytes d16) rfl ?_
    refine XS.icmpYes X6.here hexec rfl (pc0 := 17) rfl (hb hbytes d17) rfl (ii_eq_t rfl) (by decide) rfl ?_
    refine XS.aloadN X6.here hexec rfl (hb hbytes d57) rfl rfl ?_
    exact Steps.refl _)
  have X8 := X6.wide (L' := []) (cells' := 1) (slots' := len) (fun x hx hlt => by
    simp only [List.nil_append, copyLocs, List.mem_map, List.mem_range] at hx
    obtain ⟨i, -, rfl⟩ := hx
    exact absurd hlt (Nat.lt_irrefl _)) (Nat.le_refl _) (by omega)
  exact ⟨T6, some (.ref s.heap.size), _, _, _, X8, rfl, rfl, rfl, (fun h => by cases h), ⟨⟨rfl, B6, ba3.like (X3.warmed.alike.symm.trans X6.warmed.alike) p6.1 f6.1 f6.2.1 f6.2.2.1, f6.2.1.trans bv3, by rw [X6.warmed.alike.findClass, f6.1]; exact bf3, by rw [f6.2.2.1, bs3]; simp, fun j hj => by rw [f6.2.2.2 j, if_pos (by omega)]; rfl, kp3.put p6 (Nat.le_refl _)⟩, by rw [p6.2.2, bh3, hh0]; simp⟩, fun fs hl => c8.trans (X8.areturnOut hexec rfl hret rfl (hb hbytes d58) hl)⟩
end Cmp3
namespace CodL
def yN : MethodName := ⟨"java/lang/StringUTF16", "coderFromArrayLen", "([BI)B"⟩
abbrev yB : ByteArray := jdk_52_method_15_code
theorem d0 : decode yB 0 = .ok (.iload_n 1, 1) := by decide +kernel
theorem d1 : decode yB 1 = .ok (.aload_n 0, 1) := by decide +kernel
theorem d2 : decode yB 2 = .ok (.arraylength, 1) := by decide +kernel
theorem d3 : decode yB 3 = .ok (.isub, 1) := by decide +kernel
theorem d4 : decode yB 4 = .ok (.bipush 31, 2) := by decide +kernel
theorem d6 : decode yB 6 = .ok (.iushr, 1) := by decide +kernel
theorem d7 : decode yB 7 = .ok (.i2b, 1) := by decide +kernel
theorem d8 : decode yB 8 = .ok (.ireturn, 1) := by decide +kernel
def site : List Cond := []
def tab : Cond := tabOf yN yB 2 (some .byte) site
def P (d : Addr) (B : Cell) (args : Array Value) (s : State) : Prop := args = #[.ref d, .int (Int32.ofNat B.slots.size)] ∧ Arr .byte d B s
def E (r : Option Value) (s u : State) : Prop := XT.PureE (some (.int 0)) r s u
/-- an array as long as the number of chars: LATIN1 -/
theorem law (l : Launch) (d : Addr) (B : Cell) : Law l yN 2 2 0 0 yB 2 (some .byte) site (P d B) E [] 0 0 := by
  refine Law.of_walk (plainFor_of_name (by decide +kernel)) (by decide +kernel) (by decide +kernel) (by decide) (fun _ _ h => by rw [h.1]; rfl) (fun _ U U' hal hh h => ⟨h.1, h.2.mv hal hh⟩) (fun r U U' V V' h1 hal h2 h => XT.PureE.mv r U U' V V' h1 hal h2 h) ?_
  intro p e s m args below meth c s₁ X0 hexec hbytes hml hret hlk hnm hown hh0 W hP
  obtain ⟨rfl, hB⟩ := hP
  have hB0 := hB.mv X0.warmed.alike hh0
  have c1 : Steps p.tables e below (s₁.setTop (entryFrame m #[.ref d, .int (Int32.ofNat B.slots.size)] 2)) (s₁.setTop (mkF m 0 #[.val (.ref d), .val (.int (Int32.ofNat B.slots.size))] [])) := entry rfl
  have c2 : Steps p.tables e below (s₁.setTop (entryFrame m #[.ref d, .int (Int32.ofNat B.slots.size)] 2)) (s₁.setTop (mkF m 2 #[.val (.ref d), .val (.int (Int32.ofNat B.slots.size))] [.ref d, .int (Int32.ofNat B.slots.size)])) := c1.trans (by
    refine XS.iloadN X0.here hexec rfl (hb hbytes d0) rfl ?_
    refine XS.aloadN X0.here hexec rfl (hb hbytes d1) rfl rfl ?_
    exact Steps.refl _)
  have c3 : Steps p.tables e below (s₁.setTop (entryFrame m #[.ref d, .int (Int32.ofNat B.slots.size)] 2)) (s₁.setTop (mkF m 8 #[.val (.ref d), .val (.int (Int32.ofNat B.slots.size))] [.int (lo8 (ushr (Int32.ofNat B.slots.size - Int32.ofNat B.slots.size) 31))])) := c2.trans (by
    refine X0.alen hexec hB0 rfl rfl (hb hbytes d2) ?_
    refine XS.isub X0.here hexec rfl (hb hbytes d3) rfl ?_
    refine bipushV X0.here hexec rfl 31 (hb hbytes d4) (by decide) ?_
    refine iushr X0.here hexec rfl (hb hbytes d6) rfl ?_
    refine i2b X0.here hexec rfl (hb hbytes d7) rfl ?_
    exact Steps.refl _)
  have e0 : lo8 (ushr (Int32.ofNat B.slots.size - Int32.ofNat B.slots.size) 31) = 0 := by rw [Int32.sub_self]; decide
  rw [e0] at c3
  exact ⟨s₁, some (.int 0), _, _, _, X0, rfl, rfl, rfl, (fun h => by cases h), ⟨rfl, hh0⟩, fun fs hl => c3.trans (X0.ireturnOut hexec hret rfl (Or.inr (Or.inr (Or.inl rfl))) (hb hbytes d8) hl)⟩
end CodL
/-- the String at a is Latin-1 over a new byte[] (the heap's one new cell): the low bytes of the len chars of A from o on; every cell but a is kept -/
def Got (a : Addr) (D : Cell) (fV fC : Field) (A : Cell) (o len : Nat) (r : Option Value) (s u : State) : Prop := r = none ∧ ∃ D' V : Cell, Blank "java/lang/String" a D' u ∧ Same D D' [fV.slot, fC.slot] ∧ D'.slots[fV.slot]? = some (.ref s.heap.size) ∧ D'.slots[fC.slot]? = some (.int 0) ∧ Arr .byte s.heap.size V u ∧ V.vm = .none ∧ u.vm.findClass "[B" = some V.cls ∧ V.slots.size = len ∧ (∀ j, j < len → V.slots[j]? = some (.int (lo8 (cv A (o + j))))) ∧ (∀ (y : Addr) (c : Cell), y ≠ a → s.heap[y]? = some c → u.heap[y]? = some c) ∧ u.heap.size = s.heap.size + 1
theorem Got.mv {a : Addr} {D A : Cell} {fV fC : Field} {o len : Nat} : ∀ r (U U' V V' : State), U'.heap = U.heap → V.vm.Alike V'.vm → V'.heap = V.heap → Got a D fV fC A o len r U V → Got a D fV fC A o len r U' V' :=
  fun r U U' V V' h1 hal h2 ⟨e0, D', X, a1, a2, a3, a4, a5, a6, a7, a8, a9, a10, a11⟩ => ⟨e0, D', X, a1.mv hal h2, a2, by rw [h1]; exact a3, a4, by rw [h1]; exact a5.mv hal h2, a6, by rw [hal.findClass]; exact a7, a8, a9, by rw [h1, h2]; exact a10, by rw [h1, h2]; exact a11⟩
namespace New4
def yN : MethodName := ⟨"java/lang/String", "<init>", "([CIILjava/lang/Void;)V"⟩
abbrev yB : ByteArray := jdk_42_method_149_code
theorem d0 : decode yB 0 = .ok (.aload_n 0, 1) := by decide +kernel
theorem d1 : decode yB 1 = .ok (.invokespecial 1, 3) := by decide +kernel
theorem d4 : decode yB 4 = .ok (.iload_n 3, 1) := by decide +kernel
theorem d5 : decode yB 5 = .ok (.ifCond (.ne) 22, 3) := by decide +kernel
theorem d27 : decode yB 27 = .ok (.getstatic 38, 3) := by decide +kernel
theorem d30 : decode yB 30 = .ok (.ifCond (.eq) 28, 3) := by decide +kernel
theorem d33 : decode yB 33 = .ok (.aload_n 1, 1) := by decide +kernel
theorem d34 : decode yB 34 = .ok (.iload_n 2, 1) := by decide +kernel
theorem d35 : decode yB 35 = .ok (.iload_n 3, 1) := by decide +kernel
theorem d36 : decode yB 36 = .ok (.invokestatic 177, 3) := by decide +kernel
theorem d39 : decode yB 39 = .ok (.astore 5, 2) := by decide +kernel
theorem d41 : decode yB 41 = .ok (.aload_n 0, 1) := by decide +kernel
theorem d42 : decode yB 42 = .ok (.aload 5, 2) := by decide +kernel
theorem d44 : decode yB 44 = .ok (.iload_n 3, 1) := by decide +kernel
theorem d45 : decode yB 45 = .ok (.invokestatic 47, 3) := by decide +kernel
theorem d48 : decode yB 48 = .ok (.putfield 15, 3) := by decide +kernel
theorem d51 : decode yB 51 = .ok (.aload_n 0, 1) := by decide +kernel
theorem d52 : decode yB 52 = .ok (.aload 5, 2) := by decide +kernel
theorem d54 : decode yB 54 = .ok (.putfield 9, 3) := by decide +kernel
theorem d57 : decode yB 57 = .ok (.return_, 1) := by decide +kernel
def site : List Cond := [.fieldLink "java/lang/String" 38 "java/lang/String" "COMPACT_STRINGS" "Z", Cmp3.tab, CodL.tab, .laysFinal "java/lang/String" "java/lang/String" "value" "[B", .fieldLink "java/lang/String" 9 "java/lang/String" "value" "[B", .laysFinal "java/lang/String" "java/lang/String" "coder" "B", .fieldLink "java/lang/String" 15 "java/lang/String" "coder" "B"] ++ objW "java/lang/String" 1 ++ staticW "java/lang/String" 177 Cmp3.yN ++ staticW "java/lang/String" 47 CodL.yN
def tab : Cond := tabOf yN yB 6 none site
def P (a : Addr) (D : Cell) (fV fC : Field) (b : Addr) (A : Cell) (z : Int32) (o len : Nat) (args : Array Value) (s : State) : Prop := args = #[.ref a, .ref b, .int (Int32.ofNat o), .int (Int32.ofNat len), .null] ∧ Blank "java/lang/String" a D s ∧ Found "java/lang/String" "value" "[B" fV s ∧ Found "java/lang/String" "coder" "B" fC s ∧ Ch b A s ∧ StaticIs s "java/lang/String" "COMPACT_STRINGS" "Z" (.int z) ∧ ¬ z = 0 ∧ 0 < len ∧ o + len ≤ A.slots.size ∧ len ≤ 536870912 ∧ ∀ i, i < len → ¬ 255 < cv A (o + i)
def E (a : Addr) (D : Cell) (fV fC : Field) (A : Cell) (o len : Nat) (r : Option Value) (s u : State) : Prop := Got a D fV fC A o len r s u
/-- len > 0, no char of the range above 255: a Latin-1 String of their low bytes -/
theorem law (l : Launch) (a : Addr) (D : Cell) (fV fC : Field) (b : Addr) (A : Cell) (z : Int32) (o len : Nat) : Law l yN 5 4 2 35 yB 6 none site (P a D fV fC b A z o len) (E a D fV fC A o len) [⟨a, fC.slot⟩, ⟨a, fV.slot⟩] 1 len := by
  refine Law.of_walk (plainFor_of_name (by decide +kernel)) (by decide +kernel) (by decide +kernel) (by decide) (fun _ _ h => by rw [h.1]; rfl) (fun _ U U' hal hh h => ⟨h.1, h.2.1.mv hal hh, h.2.2.1.al hal, h.2.2.2.1.al hal, h.2.2.2.2.1.mv hal hh, h.2.2.2.2.2.1.there hal hh, h.2.2.2.2.2.2⟩) (fun r U U' V V' h1 hal h2 h => Got.mv r U U' V V' h1 hal h2 h) ?_
  intro p e s m args below meth c s₁ X0 hexec hbytes hml hret hlk hnm hown hh0 W hP
  obtain ⟨rfl, hB, f1, f2, hA, s1, hz, l0, l1, l2, hp⟩ := hP
  have a31 := hA.1.2.2.2
  have c1 : Steps p.tables e below (s₁.setTop (entryFrame m #[.ref a, .ref b, .int (Int32.ofNat o), .int (Int32.ofNat len), .null] 6)) (s₁.setTop (mkF m 0 #[.val (.ref a), .val (.ref b), .val (.int (Int32.ofNat o)), .val (.int (Int32.ofNat len)), .val .null, .unset] [])) := entry rfl
  have c2 : Steps p.tables e below (s₁.setTop (entryFrame m #[.ref a, .ref b, .int (Int32.ofNat o), .int (Int32.ofNat len), .null] 6)) (s₁.setTop (mkF m 1 #[.val (.ref a), .val (.ref b), .val (.int (Int32.ofNat o)), .val (.int (Int32.ofNat len)), .val .null, .unset] [.ref a])) := c1.trans (by
    refine XS.aloadN X0.here hexec rfl (hb hbytes d0) rfl rfl ?_
    exact Steps.refl _)
  obtain ⟨T3, X3, q3, st3⟩ := X0.oinit hexec hown (wks W (objW "java/lang/String" 1)) (g := (mkF m 1 #[.val (.ref a), .val (.ref b), .val (.int (Int32.ofNat o)), .val (.int (Int32.ofNat len)), .val .null, .unset] [.ref a])) rfl (by rw [hml]; rfl) (rest := []) rfl (hb hbytes d1) (W := 0) (by show 2 * 0 + 0 ≤ _; decide) (Nat.le_of_ble_eq_true rfl) (Nat.le_of_ble_eq_true rfl)
  have hh3 := q3.trans hh0
  have c4 : Steps p.tables e below (s₁.setTop (entryFrame m #[.ref a, .ref b, .int (Int32.ofNat o), .int (Int32.ofNat len), .null] 6)) (T3.setTop (mkF m 27 #[.val (.ref a), .val (.ref b), .val (.int (Int32.ofNat o)), .val (.int (Int32.ofNat len)), .val .null, .unset] [])) := (c2.trans (st3 _ (Steps.refl _))).trans (by
    refine XS.iloadN X3.here hexec rfl (hb hbytes d4) rfl ?_
    refine XS.ifYes X3.here hexec rfl (pc0 := 5) rfl (hb hbytes d5) rfl (i0_ne_t (nz32 (by omega) l0)) (by decide) rfl ?_
    exact Steps.refl _)
  obtain ⟨T5, X5, q5, st5⟩ := X3.sget hexec hown (wk W (.fieldLink "java/lang/String" 38 "java/lang/String" "COMPACT_STRINGS" "Z")) s1 (fun _ _ h => by rw [hh3]; exact h) (g := (mkF m 27 #[.val (.ref a), .val (.ref b), .val (.int (Int32.ofNat o)), .val (.int (Int32.ofNat len)), .val .null, .unset] [])) rfl (hb hbytes d27)
  have hh5 := q5.trans hh3
  have c6 : Steps p.tables e below (s₁.setTop (entryFrame m #[.ref a, .ref b, .int (Int32.ofNat o), .int (Int32.ofNat len), .null] 6)) (T5.setTop (mkF m 30 #[.val (.ref a), .val (.ref b), .val (.int (Int32.ofNat o)), .val (.int (Int32.ofNat len)), .val .null, .unset] [.int z])) := c4.trans (st5 _ (Steps.refl _))
  have c7 : Steps p.tables e below (s₁.setTop (entryFrame m #[.ref a, .ref b, .int (Int32.ofNat o), .int (Int32.ofNat len), .null] 6)) (T5.setTop (mkF m 36 #[.val (.ref a), .val (.ref b), .val (.int (Int32.ofNat o)), .val (.int (Int32.ofNat len)), .val .null, .unset] [.int (Int32.ofNat len), .int (Int32.ofNat o), .ref b])) := c6.trans (by
    refine XS.ifNo X5.here hexec rfl (hb hbytes d30) rfl (i0_eq_f hz) ?_
    refine XS.aloadN X5.here hexec rfl (hb hbytes d33) rfl rfl ?_
    refine XS.iloadN X5.here hexec rfl (hb hbytes d34) rfl ?_
    refine XS.iloadN X5.here hexec rfl (hb hbytes d35) rfl ?_
    exact Steps.refl _)
  obtain ⟨v8, T8, X8, E8, g8⟩ := X5.callS hexec (Cmp3.law l b A o len) hown (wks W (staticW "java/lang/String" 177 Cmp3.yN)) (wk W Cmp3.tab) (W := 0) (Nat.le_of_ble_eq_true rfl) (Nat.le_of_ble_eq_true rfl) (Nat.le_refl _) (by show 0 + len ≤ len; omega) (g := (mkF m 36 #[.val (.ref a), .val (.ref b), .val (.int (Int32.ofNat o)), .val (.int (Int32.ofNat len)), .val .null, .unset] [.int (Int32.ofNat len), .int (Int32.ofNat o), .ref b])) rfl (by rw [hml]; rfl) c7 (argsL := [.ref b, .int (Int32.ofNat o), .int (Int32.ofNat len)]) (rest := []) rfl rfl (by show 2 * 0 + 0 ≤ _; decide) (hb hbytes d36) (⟨rfl, hA.mv X5.warmed.alike hh5, l1, l2, hp⟩)
  obtain ⟨e8, z8⟩ := E8
  obtain ⟨rfl, N, n1, n2, n3, n4, n5, n6⟩ := NewArr.mv _ T5 s _ _ hh5.symm (Vm.Alike.refl _) rfl e8
  rw [hh5] at z8
  have hB1 := hB.keep X8.warmed.alike (n6 _ _ hB.1)
  have hne : s.heap.size ≠ a := (Nat.ne_of_lt (Array.getElem?_eq_some_iff.mp hB.1).1).symm
  have c9 : Steps p.tables e below (s₁.setTop (entryFrame m #[.ref a, .ref b, .int (Int32.ofNat o), .int (Int32.ofNat len), .null] 6)) (T8.setTop (mkF m 39 #[.val (.ref a), .val (.ref b), .val (.int (Int32.ofNat o)), .val (.int (Int32.ofNat len)), .val .null, .unset] [.ref s.heap.size])) := g8
  have c10 : Steps p.tables e below (s₁.setTop (entryFrame m #[.ref a, .ref b, .int (Int32.ofNat o), .int (Int32.ofNat len), .null] 6)) (T8.setTop (mkF m 45 #[.val (.ref a), .val (.ref b), .val (.int (Int32.ofNat o)), .val (.int (Int32.ofNat len)), .val .null, .val (.ref s.heap.size)] [.int (Int32.ofNat N.slots.size), .ref s.heap.size, .ref a])) := by
    have hc : Steps p.tables e below (s₁.setTop (entryFrame m #[.ref a, .ref b, .int (Int32.ofNat o), .int (Int32.ofNat len), .null] 6)) (T8.setTop (mkF m 45 #[.val (.ref a), .val (.ref b), .val (.int (Int32.ofNat o)), .val (.int (Int32.ofNat len)), .val .null, .val (.ref s.heap.size)] [.int (Int32.ofNat len), .ref s.heap.size, .ref a])) := c9.trans (by
      refine XS.astore X8.here hexec rfl (hb hbytes d39) rfl rfl rfl ?_
      refine XS.aloadN X8.here hexec rfl (hb hbytes d41) rfl rfl ?_
      refine XS.aload X8.here hexec rfl (hb hbytes d42) rfl rfl ?_
      refine XS.iloadN X8.here hexec rfl (hb hbytes d44) rfl ?_
      exact Steps.refl _)
    rw [n4]; exact hc
  obtain ⟨v11, T11, X11, E11, g11⟩ := X8.callS hexec (CodL.law l s.heap.size N) hown (wks W (staticW "java/lang/String" 47 CodL.yN)) (wk W CodL.tab) (W := 1) (Nat.le_of_ble_eq_true rfl) (Nat.le_of_ble_eq_true rfl) (Nat.le_refl _) (by show 0 + len + 0 ≤ len; omega) (g := (mkF m 45 #[.val (.ref a), .val (.ref b), .val (.int (Int32.ofNat o)), .val (.int (Int32.ofNat len)), .val .null, .val (.ref s.heap.size)] [.int (Int32.ofNat N.slots.size), .ref s.heap.size, .ref a])) rfl (by rw [hml]; rfl) c10 (argsL := [.ref s.heap.size, .int (Int32.ofNat N.slots.size)]) (rest := [.ref a]) rfl rfl (by show 2 * 0 + (1 + 0) ≤ _; decide) (hb hbytes d45) (⟨rfl, n1⟩)
  obtain ⟨rfl, q11⟩ := E11
  have hB11 := hB1.mv (X8.warmed.alike.symm.trans X11.warmed.alike) q11
  have c12 : Steps p.tables e below (s₁.setTop (entryFrame m #[.ref a, .ref b, .int (Int32.ofNat o), .int (Int32.ofNat len), .null] 6)) (T11.setTop (mkF m 48 #[.val (.ref a), .val (.ref b), .val (.int (Int32.ofNat o)), .val (.int (Int32.ofNat len)), .val .null, .val (.ref s.heap.size)] [.int 0, .ref a])) := g11
  obtain ⟨T13, X13, p13, bl13, sl13, st13⟩ := X11.finit hexec hown (wk W (.fieldLink "java/lang/String" 15 "java/lang/String" "coder" "B")) (Or.inr ⟨_, (wk W (.laysFinal "java/lang/String" "java/lang/String" "coder" "B"))⟩) (Or.inl ⟨rfl, hnm⟩) f2 (Or.inl rfl) hB11 (t := .byte) (by decide +kernel) rfl (g := (mkF m 48 #[.val (.ref a), .val (.ref b), .val (.int (Int32.ofNat o)), .val (.int (Int32.ofNat len)), .val .null, .val (.ref s.heap.size)] [.int 0, .ref a])) rfl (rest := []) rfl (hb hbytes d48)
  have c14 : Steps p.tables e below (s₁.setTop (entryFrame m #[.ref a, .ref b, .int (Int32.ofNat o), .int (Int32.ofNat len), .null] 6)) (T13.setTop (mkF m 54 #[.val (.ref a), .val (.ref b), .val (.int (Int32.ofNat o)), .val (.int (Int32.ofNat len)), .val .null, .val (.ref s.heap.size)] [.ref s.heap.size, .ref a])) := (c12.trans (st13 _ (Steps.refl _))).trans (by
    refine XS.aloadN X13.here hexec rfl (hb hbytes d51) rfl rfl ?_
    refine XS.aload X13.here hexec rfl (hb hbytes d52) rfl rfl ?_
    exact Steps.refl _)
  obtain ⟨T15, X15, p15, bl15, sl15, st15⟩ := X13.finit hexec hown (wk W (.fieldLink "java/lang/String" 9 "java/lang/String" "value" "[B")) (Or.inr ⟨_, (wk W (.laysFinal "java/lang/String" "java/lang/String" "value" "[B"))⟩) (Or.inl ⟨rfl, hnm⟩) f1 (Or.inl rfl) bl13 (t := (.array .byte)) (by decide +kernel) rfl (g := (mkF m 54 #[.val (.ref a), .val (.ref b), .val (.int (Int32.ofNat o)), .val (.int (Int32.ofNat len)), .val .null, .val (.ref s.heap.size)] [.ref s.heap.size, .ref a])) rfl (rest := []) rfl (hb hbytes d54)
  have c16 : Steps p.tables e below (s₁.setTop (entryFrame m #[.ref a, .ref b, .int (Int32.ofNat o), .int (Int32.ofNat len), .null] 6)) (T15.setTop (mkF m 57 #[.val (.ref a), .val (.ref b), .val (.int (Int32.ofNat o)), .val (.int (Int32.ofNat len)), .val .null, .val (.ref s.heap.size)] [])) := c14.trans (st15 _ (Steps.refl _))
  have ap := apart (Or.inr ⟨_, (wk W (.laysFinal "java/lang/String" "java/lang/String" "value" "[B"))⟩) (Or.inr ⟨_, (wk W (.laysFinal "java/lang/String" "java/lang/String" "coder" "B"))⟩) f1 f2 (t₁ := .array .byte) (t₂ := .byte) (by decide +kernel) (by decide +kernel) (by decide)
  have al := X8.warmed.alike.symm.trans X15.warmed.alike
  have n7 : T11.heap[s.heap.size]? = some N := by rw [q11]; exact n1.1
  exact ⟨T15, none, _, _, _, X15, by simp, rfl, by omega, (fun _ => rfl), ⟨rfl, _, N, bl15, ((Same.refl D _).set _ (by simp)).set _ (by simp), sl15, (Cell.slots_setSlot_ne _ ap).trans sl13, n1.keep al (p15.other hne (p13.other hne n7)), n2, by rw [al.findClass]; exact n3, n4, n5, fun y c h1 h2 => p15.other h1 (p13.other h1 (by rw [q11]; exact n6 y c h2)), by rw [p15.2.2, p13.2.2, q11]; exact z8⟩, fun fs hl => c16.trans (X15.returnOut hexec hret (hb hbytes d57) hl)⟩
end New4
namespace New1
def yN : MethodName := ⟨"java/lang/String", "<init>", "([C)V"⟩
abbrev yB : ByteArray := jdk_42_method_3_code
theorem d0 : decode yB 0 = .ok (.aload_n 0, 1) := by decide +kernel
theorem d1 : decode yB 1 = .ok (.aload_n 1, 1) := by decide +kernel
theorem d2 : decode yB 2 = .ok (.iconst 0, 1) := by decide +kernel
theorem d3 : decode yB 3 = .ok (.aload_n 1, 1) := by decide +kernel
theorem d4 : decode yB 4 = .ok (.arraylength, 1) := by decide +kernel
theorem d5 : decode yB 5 = .ok (.aconst_null, 1) := by decide +kernel
theorem d6 : decode yB 6 = .ok (.invokespecial 27, 3) := by decide +kernel
theorem d9 : decode yB 9 = .ok (.return_, 1) := by decide +kernel
def site : List Cond := [New4.tab] ++ initW "java/lang/String" 27 New4.yN
def tab : Cond := tabOf yN yB 2 none site
def P (a : Addr) (D : Cell) (fV fC : Field) (b : Addr) (A : Cell) (z : Int32) (args : Array Value) (s : State) : Prop := args = #[.ref a, .ref b] ∧ Blank "java/lang/String" a D s ∧ Found "java/lang/String" "value" "[B" fV s ∧ Found "java/lang/String" "coder" "B" fC s ∧ Ch b A s ∧ StaticIs s "java/lang/String" "COMPACT_STRINGS" "Z" (.int z) ∧ ¬ z = 0 ∧ 0 < A.slots.size ∧ A.slots.size ≤ 536870912 ∧ ∀ i, i < A.slots.size → ¬ 255 < cv A i
def E (a : Addr) (D : Cell) (fV fC : Field) (A : Cell) (r : Option Value) (s u : State) : Prop := Got a D fV fC A 0 A.slots.size r s u
/-- new String(chars), not empty, no char above 255: a Latin-1 String of their low bytes -/
theorem law (l : Launch) (a : Addr) (D : Cell) (fV fC : Field) (b : Addr) (A : Cell) (z : Int32) : Law l yN 2 1 3 52 yB 2 none site (P a D fV fC b A z) (E a D fV fC A) [⟨a, fC.slot⟩, ⟨a, fV.slot⟩] 1 A.slots.size := by
  refine Law.of_walk (plainFor_of_name (by decide +kernel)) (by decide +kernel) (by decide +kernel) (by decide) (fun _ _ h => by rw [h.1]; rfl) (fun _ U U' hal hh h => ⟨h.1, h.2.1.mv hal hh, h.2.2.1.al hal, h.2.2.2.1.al hal, h.2.2.2.2.1.mv hal hh, h.2.2.2.2.2.1.there hal hh, h.2.2.2.2.2.2⟩) (fun r U U' V V' h1 hal h2 h => Got.mv r U U' V V' h1 hal h2 h) ?_
  intro p e s m args below meth c s₁ X0 hexec hbytes hml hret hlk hnm hown hh0 W hP
  obtain ⟨rfl, hB, f1, f2, hA, s1, hz, l0, l2, hp⟩ := hP
  have c1 : Steps p.tables e below (s₁.setTop (entryFrame m #[.ref a, .ref b] 2)) (s₁.setTop (mkF m 0 #[.val (.ref a), .val (.ref b)] [])) := entry rfl
  have c2 : Steps p.tables e below (s₁.setTop (entryFrame m #[.ref a, .ref b] 2)) (s₁.setTop (mkF m 6 #[.val (.ref a), .val (.ref b)] [.null, .int (Int32.ofNat A.slots.size), .int 0, .ref b, .ref a])) := c1.trans (by
    refine XS.aloadN X0.here hexec rfl (hb hbytes d0) rfl rfl ?_
    refine XS.aloadN X0.here hexec rfl (hb hbytes d1) rfl rfl ?_
    refine iconstV X0.here hexec rfl 0 (hb hbytes d2) (by decide) ?_
    refine XS.aloadN X0.here hexec rfl (hb hbytes d3) rfl rfl ?_
    refine X0.alen hexec (hA.1.mv X0.warmed.alike hh0) rfl rfl (hb hbytes d4) ?_
    refine XS.aconstNull X0.here hexec rfl (hb hbytes d5) ?_
    exact Steps.refl _)
  obtain ⟨v3, T3, X3, E3, g3⟩ := X0.callN hexec (New4.law l a D fV fC b A z 0 A.slots.size) rfl hown (wks W (initW "java/lang/String" 27 New4.yN)) (W New4.tab (by simp only [site, List.mem_cons, List.mem_append, true_or, or_true])) (W := 0) (Nat.le_of_ble_eq_true rfl) (Nat.le_of_ble_eq_true rfl) (Nat.le_refl _) (by show 0 + A.slots.size ≤ A.slots.size; omega) (g := (mkF m 6 #[.val (.ref a), .val (.ref b)] [.null, .int (Int32.ofNat A.slots.size), .int (Int32.ofNat 0), .ref b, .ref a])) rfl (by rw [hml]; rfl) c2 (argsL := [.ref b, .int (Int32.ofNat 0), .int (Int32.ofNat A.slots.size), .null]) (rest := []) rfl rfl (by show 2 * 0 + 0 ≤ _; decide) (hb hbytes d6) (⟨rfl, hB.mv X0.warmed.alike hh0, f1.al X0.warmed.alike, f2.al X0.warmed.alike, hA.mv X0.warmed.alike hh0, s1.there X0.warmed.alike hh0, hz, l0, by omega, l2, fun i hi => by rw [Nat.zero_add]; exact hp i hi⟩)
  have e0 := Got.mv _ s₁ s _ _ hh0.symm (Vm.Alike.refl _) rfl E3
  obtain rfl := e0.1
  have c4 : Steps p.tables e below (s₁.setTop (entryFrame m #[.ref a, .ref b] 2)) (T3.setTop (mkF m 9 #[.val (.ref a), .val (.ref b)] [])) := g3
  exact ⟨T3, none, _, _, _, X3, by simp, rfl, by omega, (fun _ => rfl), e0, fun fs hl => c4.trans (X3.returnOut hexec hret (hb hbytes d9) hl)⟩
theorem pays {l : Launch} {R : Room} {p : Program} {e : Env} {below : List Frame} {s : State} {sargs : Array Value} {len W : Nat} (a : Addr) (D : Cell) (fV fC : Field) (b : Addr) (A : Cell) (z : Int32) (htab : tab.before sargs s = true) (hfr : 4 ≤ R.frames) (hlo : W + 65 ≤ R.locals) :
    Back l R p e below s sargs yN len W (fun A₁ a₁ => A₁.cells + 1 ≤ R.cells ∧ A₁.slots + A.slots.size ≤ R.slots ∧ P a D fV fC b A z a₁ A₁.U) (fun A₁ _ v₁ B₁ => E a D fV fC A v₁ A₁.U B₁.U ∧ B₁.locs = A₁.locs ++ [⟨a, fC.slot⟩, ⟨a, fV.slot⟩] ∧ B₁.cells = A₁.cells + 1 ∧ B₁.slots = A₁.slots + A.slots.size) :=
  (law l a D fV fC b A z).pays htab hfr (by omega)
end New1
end StrChars
namespace StrChars.Road
open Jvm Sem ClassFile Op Lib Jvm.Stand Jvm.Free Jvm.Free.XT
open Jvm.Lib.Cold (StaticIs)
abbrev ST : String := "java/lang/String"
/-- every table word that New1's law asks, flat -/
abbrev words : List Jvm.Cond := [.code New1.yN New1.yB 2 none, .initialized ST, .methodLink ST 27 New4.yN, .instanceMethod New4.yN,
  .code New4.yN New4.yB 6 none, .fieldLink ST 38 ST "COMPACT_STRINGS" "Z", .laysFinal ST ST "value" "[B", .fieldLink ST 9 ST "value" "[B", .laysFinal ST ST "coder" "B", .fieldLink ST 15 ST "coder" "B",
  .methodLink ST 1 Lib.objectInit, .instanceMethod Lib.objectInit, .code Lib.objectInit ⟨#[0xb1]⟩ 1 none, .methodLink ST 177 Cmp3.yN, .static Cmp3.yN, .methodLink ST 47 CodL.yN, .static CodL.yN,
  .code Cmp3.yN Cmp3.yB 6 (some (.array .byte)), .initialized U16, .arrayClass .byte, .methodLink U16 115 Cmp5.yN, .static Cmp5.yN, .code Cmp5.yN Cmp5.yB 7 (some .int), .code CodL.yN CodL.yB 2 (some .byte)]
theorem tab_of {a : Array Value} {s : State} (h : ∀ w ∈ words, w.before a s = true) : New1.tab.before a s = true := by
  have h5 : Cmp5.tab.before a s = true := unparts (wk h (.code Cmp5.yN Cmp5.yB 7 (some .int))) (wks h (.initialized Cmp5.yN.cls :: Cmp5.site))
  have hc : CodL.tab.before a s = true := unparts (wk h (.code CodL.yN CodL.yB 2 (some .byte))) (wks h (.initialized CodL.yN.cls :: CodL.site))
  have q5 : ∀ w ∈ Cmp5.tab :: words, w.before a s = true := fun w hw => (List.mem_cons.mp hw).elim (fun e => e ▸ h5) (h w)
  have h3 : Cmp3.tab.before a s = true := unparts (wk q5 (.code Cmp3.yN Cmp3.yB 6 (some (.array .byte)))) (wks q5 (.initialized Cmp3.yN.cls :: Cmp3.site))
  have q3 : ∀ w ∈ Cmp3.tab :: CodL.tab :: words, w.before a s = true := fun w hw => (List.mem_cons.mp hw).elim (fun e => e ▸ h3) fun hw => (List.mem_cons.mp hw).elim (fun e => e ▸ hc) (h w)
  have h4 : New4.tab.before a s = true := unparts (wk q3 (.code New4.yN New4.yB 6 none)) (wks q3 (.initialized New4.yN.cls :: New4.site))
  have q4 : ∀ w ∈ New4.tab :: words, w.before a s = true := fun w hw => (List.mem_cons.mp hw).elim (fun e => e ▸ h4) (h w)
  exact unparts (wk q4 (.code New1.yN New1.yB 2 none)) (wks q4 (.initialized New1.yN.cls :: New1.site))
/-- the words ride from the start Z to the walk's own state -/
theorem moved {Z s : State} {a0 args : Array Value} (hZ : Z.Warmed39 s.vm) (hw : ∀ d ∈ words, d.before a0 Z = true) : ∀ d ∈ words, d.before args s = true := fun d hd => by
  have q := hw d hd
  have t : ∀ d ∈ words, d = .arrayClass .byte ∨ (d.onTables && d.keepsFace) = true := by decide +kernel
  rcases t d hd with rfl | t
  · exact RoadKit.mvA hZ q
  · exact RoadKit.mv hZ q t
/-- WHAT COMES BACK, over the tables of the start Z: h the heap at the call, h' behind it -/
def Q (Z : State) (x : Addr) (A : Cell) (h : Heap) (v : Option Value) (h' : Heap) (L : List Loc) : Prop := v = none ∧ (∀ y ∈ L, y.base = x) ∧ RoadKit.Keep h h' [x] ∧ h'.size = h.size + 1 ∧ RoadKit.Exa Z h' x ST ∧ RoadKit.Fld Z h' x ST "value" "[B" (.ref h.size) ∧ RoadKit.Fld Z h' x ST "coder" "B" (.int 0) ∧
  (∃ V : Cell, RoadKit.Arr Z h' h.size V .byte ∧ V.vm = .none ∧ Z.vm.findClass "[B" = some V.cls ∧ V.slots.size = A.slots.size ∧ ∀ j, j < A.slots.size → V.slots[j]? = some (.int (lo8 (cv A j)))) ∧
  ∀ (O n d : String) (w : Value), RoadKit.Fld Z h x O n d w → RoadKit.slotOf Z O n d ≠ RoadKit.slotOf Z ST "value" "[B" → RoadKit.slotOf Z O n d ≠ RoadKit.slotOf Z ST "coder" "B" → RoadKit.Fld Z h' x O n d w
/-- **new String(chars) AT A CALL, IN THE ROAD'S FORM**: for specialBack behind newO: x the fresh String, b the char[] with the cell A -/
theorem back {p : Program} {l : Launch} {e : Env} {R : Room} {s : State} {args : Array Value} {below : List Frame} {len W : Nat} {Z : State} {a0 : Array Value} {h : Heap} (hZ : Z.Warmed39 s.vm) (hw : ∀ d ∈ words, d.before a0 Z = true) {kI : Nat} (wi : (Jvm.Cond.instantiable ST kI).before a0 Z = true)
    {x b : Addr} {A : Cell} {z : Int32} {v0 c0 : Value} (E : RoadKit.Exa Z h x ST) (V : RoadKit.Fld Z h x ST "value" "[B" v0) (C : RoadKit.Fld Z h x ST "coder" "B" c0) (K : RoadKit.Arr Z h b A .char) (hty : Typed .char A) (S : RoadKit.Sta Z h ST "COMPACT_STRINGS" "Z" (.int z)) (hz : ¬ z = 0)
    (l0 : 0 < A.slots.size) (l2 : A.slots.size ≤ 536870912) (hp : ∀ i, i < A.slots.size → ¬ 255 < cv A i) (hfr : 4 ≤ R.frames) (hlo : W + 65 ≤ R.locals) :
    Back l R p e below s args New1.yN len W (fun P a => a = #[.ref x, .ref b] ∧ P.U.heap = h ∧ P.cells + 1 ≤ R.cells ∧ P.slots + A.slots.size ≤ R.slots)
      (fun P _ v B => ∃ L, Q Z x A h v B.U.heap L ∧ B.locs = P.locs ++ L ∧ B.cells = P.cells + 1 ∧ B.slots = P.slots + A.slots.size) := by
  intro m meth c P g ig mk a X hg hsize hdg hW hn hp'
  obtain ⟨rfl, rfl, r1, r2⟩ := hp'
  have al : Z.vm.Alike P.U.vm := hZ.alike.trans X.warmed.alike
  obtain ⟨D, cfV, kV, iV, fV, hD, gV, stV, knV, obV, asV, slV⟩ := id V
  obtain ⟨D', cfC, kC, iC, fC, hD', gC, stC, -, -, asC, slC⟩ := id C
  cases hD.symm.trans hD'
  obtain ⟨D2, kD, e1, e2, e3, e4, e5⟩ := id E
  cases hD.symm.trans e1
  obtain ⟨c2, k2, i1, i2, i3, -⟩ := Cond.instantiable_spec wi
  cases e2.symm.trans i1
  cases e3.symm.trans i2
  obtain ⟨kU, u1, u2⟩ := al.2.2 _ _ e3
  have hB : Blank ST x D P.U := ⟨hD, ⟨knV, fun q hq => by rw [hq] at obV; cases obV⟩, by rw [al.findClass]; exact e2, kU, u1, by rw [u2]; exact i3, by rw [u2]; exact e5 i3⟩
  have F1 : Found ST "value" "[B" fV P.U := ⟨SBG.found_only al ⟨cfV, kV, iV, gV⟩, stV⟩
  have F2 : Found ST "coder" "B" fC P.U := ⟨SBG.found_only al ⟨cfC, kC, iC, gC⟩, stC⟩
  have hA : Ch b A P.U := ⟨⟨K.1, State.isArrayOf_alike al K.2.1, K.2.2, by omega⟩, hty⟩
  have hS : StaticIs P.U ST "COMPACT_STRINGS" "Z" (.int z) := by
    obtain ⟨cfS, iS, kS, fS, st, cS, t1, t2, t3, t4, t5, t6, t7⟩ := S
    exact StaticIs.there (s := { Z with heap := P.U.heap }) ⟨cfS, iS, kS, fS, st, cS, t1, t2, t3, t4, t5, (fun q => by rw [q] at t6; cases t6), t7⟩ al rfl
  obtain ⟨v, B, X', ⟨⟨hv, E', V', q1, q2, q3, q4, q5, q6, q7, q8, q9, q10, q11⟩, hl, hc, hs⟩, st⟩ := New1.pays x D fV fC b A z (tab_of (moved hZ hw)) hfr hlo m meth c P g ig mk _ X hg hsize hdg hW hn ⟨r1, r2, rfl, hB, F1, F2, hA, hS, hz, l0, l2, hp⟩
  have al' : Z.vm.Alike B.U.vm := hZ.alike.trans X'.warmed.alike
  have hsz : E'.slots.size = D.slots.size := by
    obtain ⟨-, -, -, kB, w1, w2, w3⟩ := q1
    obtain ⟨kB', y1, y2⟩ := al'.2.2 _ _ e3
    rw [q2.2.1] at w1
    cases w1.symm.trans y1
    rw [w3, e5 i3, y2]
  refine ⟨v, B, X', ⟨_, ⟨hv, ?_, ⟨by omega, fun y cy hy hn' => q10 y cy (by simpa using hn') hy, fun y cy hy => ?_⟩, q11, ⟨E', _, q1.1, by rw [q2.2.1]; exact e2, by rw [q2.2.1]; exact e3, by rw [q2.1]; exact obV, fun _ => by rw [hsz]; exact e5 i3⟩,
    ⟨E', cfV, kV, iV, fV, q1.1, gV, stV, by rw [q2.1]; exact knV, by rw [q2.1]; exact obV, by rw [q2.2.1]; exact asV, q3⟩, ⟨E', cfC, kC, iC, fC, q1.1, gC, stC, by rw [q2.1]; exact knV, by rw [q2.1]; exact obV, by rw [q2.2.1]; exact asC, q4⟩,
    ⟨V', ⟨q5.1, State.isArrayOf_alike al'.symm q5.2.1, q5.2.2.1⟩, q6, by rw [← al'.findClass]; exact q7, q8, fun j hj => by have := q9 j hj; rwa [Nat.zero_add] at this⟩, fun O n d w F n1 n2 => ?_⟩, hl, hc, hs⟩, st⟩
  · intro y hy
    simp only [List.mem_cons, List.not_mem_nil, or_false] at hy
    rcases hy with rfl | rfl <;> rfl
  · by_cases q : y = x
    · subst q
      cases hD.symm.trans hy
      exact ⟨E', q1.1, q2.2.1, q2.1, hsz⟩
    · exact ⟨cy, q10 y cy q hy, rfl, rfl, rfl⟩
  · obtain ⟨D3, cf, k, i, f, g1, g2, g3, g4, g5, g6, g7⟩ := F
    cases hD.symm.trans g1
    simp only [RoadKit.slotOf, g2, gV, gC, Option.map_some, Option.getD_some] at n1 n2
    exact ⟨E', cf, k, i, f, q1.1, g2, g3, by rw [q2.1]; exact g4, by rw [q2.1]; exact g5, by rw [q2.2.1]; exact g6, by rw [q2.2.2 f.slot (by simp [n1, n2])]; exact g7⟩
end StrChars.Road
namespace StrChars.Road
open Jvm Sem ClassFile Op Lib Jvm.Stand Jvm.Free Jvm.Free.XT
/-- WHAT COMES BACK, the byte[] as a list of values -/
def QA (Z : State) (x : Addr) (zn : Int32) (cs : List Int32) (h : Heap) (v : Option Value) (h' : Heap) (L : List Loc) : Prop := v = none ∧ (∀ y ∈ L, y.base = x) ∧ RoadKit.Keep h h' [x] ∧ h'.size = h.size + 1 ∧ RoadKit.Exa Z h' x ST ∧ RoadKit.Fld Z h' x ST "value" "[B" (.ref h.size) ∧ RoadKit.Fld Z h' x ST "coder" "B" (.int 0) ∧
  (∃ kb, Z.vm.findClass "[B" = some kb ∧ RoadKit.Arv Z h' h.size kb .byte zn (cs.map fun c => .int (lo8 c)) (.int 0)) ∧
  ∀ (O n d : String) (w : Value), RoadKit.Fld Z h x O n d w → RoadKit.slotOf Z O n d ≠ RoadKit.slotOf Z ST "value" "[B" → RoadKit.slotOf Z O n d ≠ RoadKit.slotOf Z ST "coder" "B" → RoadKit.Fld Z h' x O n d w
/-- **new String(chars) AT A CALL, THE ARRAYS AS LISTS**: the char[] at b holds cs, not empty, no char above 255 -/
theorem backArv {p : Program} {l : Launch} {e : Env} {R : Room} {s : State} {args : Array Value} {below : List Frame} {len W : Nat} {Z : State} {a0 : Array Value} {h : Heap} (hZ : Z.Warmed39 s.vm) (hw : ∀ d ∈ words, d.before a0 Z = true) {kI : Nat} (wi : (Jvm.Cond.instantiable ST kI).before a0 Z = true)
    {x b : Addr} {k : ClassId} {zn z : Int32} {cs : List Int32} {dv v0 c0 : Value} (E : RoadKit.Exa Z h x ST) (V : RoadKit.Fld Z h x ST "value" "[B" v0) (C : RoadKit.Fld Z h x ST "coder" "B" c0) (K : RoadKit.Arv Z h b k .char zn (cs.map Value.int) dv) (S : RoadKit.Sta Z h ST "COMPACT_STRINGS" "Z" (.int z)) (hz : ¬ z = 0)
    (hlen : zn.toNatClampNeg = cs.length) (h0 : 0 < cs.length) (hbig : cs.length ≤ 536870912) (hall : ∀ c ∈ cs, ¬ 255 < c) (hfr : 4 ≤ R.frames) (hlo : W + 65 ≤ R.locals) :
    Back l R p e below s args New1.yN len W (fun P a => a = #[.ref x, .ref b] ∧ P.U.heap = h ∧ P.cells + 1 ≤ R.cells ∧ P.slots + cs.length ≤ R.slots)
      (fun P _ v B => ∃ L, QA Z x zn cs h v B.U.heap L ∧ B.locs = P.locs ++ L ∧ B.cells = P.cells + 1 ∧ B.slots = P.slots + cs.length) := by
  obtain ⟨A, K1, K2, K3, K4, K5, K6⟩ := K
  have e : A.slots.size = cs.length := K3.trans hlen
  have hat : ∀ (i : Nat) (hi : i < cs.length), A.slots[i]? = some (.int cs[i]) := fun i hi => by rw [K5 i (by omega)]; simp [List.getD_eq_getElem?_getD, hi]
  have hcv : ∀ (i : Nat) (hi : i < cs.length), cv A i = cs[i] := fun i hi => by unfold cv; rw [hat i hi]
  have hty : Typed .char A := fun i v hv => by
    have hi : i < A.slots.size := (Array.getElem?_eq_some_iff.mp hv).1
    have q := K5 i hi
    rw [hv] at q
    rw [Option.some.inj q]
    exact K6 i hi
  refine Back.mono (back hZ hw wi E V C K1 hty S hz (by omega) (by omega) (fun i hi => by rw [hcv i (by omega)]; exact hall _ (List.getElem_mem _)) hfr hlo) (fun P a hp => ⟨hp.1, hp.2.1, hp.2.2.1, by rw [e]; exact hp.2.2.2⟩) (fun P a v B hp hq => ?_)
  obtain ⟨L, ⟨q1, q2, q3, q4, q5, q6, q7, ⟨V', v1, v2, v3, v4, v5⟩, q9⟩, hl, hc, hs⟩ := hq
  refine ⟨L, ⟨q1, q2, q3, q4, q5, q6, q7, ⟨V'.cls, v3, V', v1, rfl, by rw [v4, e, hlen], K4, fun i hi => ?_, fun i hi => ?_⟩, q9⟩, hl, hc, by rw [hs, e]⟩
  · have hi' : i < cs.length := by omega
    rw [v5 i (by omega), hcv i hi']; simp [List.getD_eq_getElem?_getD, hi']
  · have hi' : i < cs.length := by omega
    simp only [List.getD_eq_getElem?_getD, List.getElem?_map, List.getElem?_eq_getElem hi', Option.map_some, Option.getD_some]
    exact fits_lo8 _
end StrChars.Road
namespace StrChars.Road
open Jvm Sem ClassFile Op Lib Jvm.Stand Jvm.Free Jvm.Free.XT
/-- WHAT COMES BACK, in the writer's own shape -/
def QV (Z : State) (x : Addr) (N : Int32) (bs : List Int32) (h : Heap) (n0 : Nat) (v : Option Value) (h' : Heap) (L : List Loc) : Prop := v = none ∧ RoadKit.Fr n0 L ∧ RoadKit.Keep h h' [x] ∧ RoadKit.Exa Z h' x ST ∧ RoadKit.Fld Z h' x ST "coder" "B" (.int 0) ∧
  ∃ (t : Addr) (kb : ClassId), n0 ≤ t ∧ h.size ≤ t ∧ ¬ t = x ∧ RoadKit.Fld Z h' x ST "value" "[B" (.ref t) ∧ RoadKit.Arv Z h' t kb .byte N (bs.map Value.int) (.int 0)
/-- **new String(chars) AT A CALL, FOR THE WRITER**: a char[] of n known ints, each 0 to 255 -/
theorem backV {p : Program} {l : Launch} {e : Env} {R : Room} {s : State} {args : Array Value} {below : List Frame} {len W : Nat} {Z : State} {a0 : Array Value} {h : Heap} (hZ : Z.Warmed39 s.vm) (hw : ∀ d ∈ words, d.before a0 Z = true) {kI : Nat} (wi : (Jvm.Cond.instantiable ST kI).before a0 Z = true)
    {x b : Addr} {kC : ClassId} {cs bs : List Int32} {d v0 c0 : Value} {z N : Int32} {n n0 : Nat} (hx0 : n0 ≤ x) (hh0 : n0 ≤ h.size) (E : RoadKit.Exa Z h x ST) (V : RoadKit.Fld Z h x ST "value" "[B" v0) (C : RoadKit.Fld Z h x ST "coder" "B" c0) (K : RoadKit.Arv Z h b kC .char N (cs.map Value.int) d) (S : RoadKit.Sta Z h ST "COMPACT_STRINGS" "Z" (.int z)) (hz : ¬ z = 0)
    (hn : cs.length = n) (hN : N = Int32.ofNat n) (l0 : 0 < n) (l2 : n ≤ 4000) (hp : ∀ c ∈ cs, ¬ c < 0 ∧ ¬ (255 : Int32) < c) (hb : bs = cs.map (fun c => c.toInt8.toInt32)) (hfr : 4 ≤ R.frames) (hlo : W + 65 ≤ R.locals) :
    Back l R p e below s args (⟨"java/lang/String", "<init>", "([C)V"⟩ : MethodName) len W (fun P a => a = #[.ref x, .ref b] ∧ P.U.heap = h ∧ P.cells + 1 ≤ R.cells ∧ P.slots + n ≤ R.slots)
      (fun P _ v B => ∃ L, QV Z x N bs h n0 v B.U.heap L ∧ B.locs = P.locs ++ L ∧ B.cells = P.cells + 1 ∧ B.slots = P.slots + n) := by
  subst hn hN hb
  refine Back.mono (backArv hZ hw wi E V C K S hz (n32 (by omega)) l0 (by omega) (fun c hc => (hp c hc).2) hfr hlo) (fun P a hp => hp) (fun P a v B hp hq => ?_)
  obtain ⟨L, ⟨q1, q2, q3, q4, q5, q6, q7, ⟨kb, v1, v2⟩, q9⟩, hl, hc, hs⟩ := hq
  exact ⟨L, ⟨q1, fun y hy => by rw [q2 y hy]; exact hx0, q3, q5, q7, h.size, kb, hh0, Nat.le_refl _, Nat.ne_of_gt E.lt, q6, by rw [List.map_map]; exact v2⟩, hl, hc, hs⟩
end StrChars.Road
end Jvm.Pilot.@@N@@
namespace Jvm.Pilot.@@N@@
open Jvm Jvm.ClassFile Sem Op Lib Jvm.Free Jvm.Stand Jvm.LawKit Jvm.RoadKit Bundle Jvm.Pilot.@@N@@.Jvm.D
section OwnPre
def Gl (tb : Tables) (e : Env) (below : List Frame) (P : State → Outcome → Prop) (T : State) (m : MethodId) (pc : Nat) (L : Array Slot) (S : List Value) : Prop := ∃ s₂ o, Steps tb e below (T.setTop (mkF m pc L S)) s₂ ∧ P s₂ o
def Wk (p : Program) (l : Launch) (e : Env) (R : Room) (s : State) (m : MethodId) (args : Array Value) (below : List Frame) (meth : Method) (c : Code) (own : String) (Z : State) (hb : Heap) (ws : List Addr) (I : Heap → Prop) (T : State) (h : Heap) (locs : List Loc) (cells slots : Nat) : Prop :=
  Stand p l e R s m args below meth c T locs cells slots ∧ p.tables.exec = Jvm.exec ∧ T.heap = h ∧ Z.Warmed39 s.vm ∧ s.vm.findClass own = some m.cls ∧ Old Z Z.heap.size h ∧ Fr Z.heap.size locs ∧ Keep hb h ws ∧ I h
variable {p : Program} {l : Launch} {e : Env} {R : Room} {s : State} {m : MethodId} {args : Array Value} {below : List Frame} {meth : Method} {c : Code} {T : State} {locs : List Loc} {cells slots cells' slots' : Nat} {Z : State} {a0 : Array Value} {h hb : Heap} {ws : List Addr} {own : String} {I : Heap → Prop} {P : State → Outcome → Prop} {pc pc' : Nat} {L L' : Array Slot} {S : List Value}
theorem Gl.st {tb : Tables} {T T' : State} {S' : List Value} (k : ∀ target, Steps tb e below (T'.setTop (mkF m pc' L' S')) target → Steps tb e below (T.setTop (mkF m pc L S)) target) (G : Gl tb e below P T' m pc' L' S') : Gl tb e below P T m pc L S := by
  obtain ⟨s2, o, h1, h2⟩ := G
  exact ⟨s2, o, k _ h1, h2⟩
theorem Gl.tr {tb : Tables} {T T' : State} {S' : List Value} (k : Steps tb e below (T.setTop (mkF m pc L S)) (T'.setTop (mkF m pc' L' S'))) (G : Gl tb e below P T' m pc' L' S') : Gl tb e below P T m pc L S := by
  obtain ⟨s2, o, h1, h2⟩ := G
  exact ⟨s2, o, k.trans h1, h2⟩
theorem Wk.ox (W : Wk p l e R s m args below meth c own Z hb ws I T h locs cells slots) : Ext Z.heap h := W.2.2.2.2.2.1.2
theorem Wk.old (W : Wk p l e R s m args below meth c own Z hb ws I T h locs cells slots) : Old Z Z.heap.size h := W.2.2.2.2.2.1
theorem Wk.keep (W : Wk p l e R s m args below meth c own Z hb ws I T h locs cells slots) : Keep hb h ws := W.2.2.2.2.2.2.2.1
theorem Wk.inv (W : Wk p l e R s m args below meth c own Z hb ws I T h locs cells slots) : I h := W.2.2.2.2.2.2.2.2
theorem Wk.zs (W : Wk p l e R s m args below meth c own Z hb ws I T h locs cells slots) : Z.heap.size ≤ h.size := W.ox.1
theorem Wk.al (W : Wk p l e R s m args below meth c own Z hb ws I T h locs cells slots) : Z.vm.Alike s.vm := W.2.2.2.1.alike
theorem own_ne {x b n : Nat} (h1 : x < n) (h2 : n ≤ b) : x ≠ b := Nat.ne_of_lt (Nat.lt_of_lt_of_le h1 h2)
theorem own_ne' {x b n : Nat} (h1 : x < n) (h2 : n ≤ b) : b ≠ x := Ne.symm (own_ne h1 h2)
theorem o_iloadN (W : Wk p l e R s m args below meth c own Z hb ws I T h locs cells slots) {k : Fin 4} {v : Int32} (hd : decode c.code pc = .ok (.iload_n k, 1)) (hl : L[k.val]? = some (.val (.int v))) (hp : pc + 1 = pc') (K : Gl p.tables e below P T m pc' L (.int v :: S)) : Gl p.tables e below P T m pc L S := by
  subst hp; exact Gl.st (fun _ q => XS.iloadN W.1.here W.2.1 rfl hd hl q) K
theorem o_iload (W : Wk p l e R s m args below meth c own Z hb ws I T h locs cells slots) {k : Nat} {v : Int32} (hd : decode c.code pc = .ok (.iload k, 2)) (hl : L[k]? = some (.val (.int v))) (hp : pc + 2 = pc') (K : Gl p.tables e below P T m pc' L (.int v :: S)) : Gl p.tables e below P T m pc L S := by
  subst hp; exact Gl.st (fun _ q => XS.iload W.1.here W.2.1 rfl hd hl q) K
theorem o_istoreN (W : Wk p l e R s m args below meth c own Z hb ws I T h locs cells slots) {k : Fin 4} {v : Int32} {L' : Array Slot} (hd : decode c.code pc = .ok (.istore_n k, 1)) (hl : storeLocals L k.val (.int v) = some L') (hp : pc + 1 = pc') (K : Gl p.tables e below P T m pc' L' S) : Gl p.tables e below P T m pc L (.int v :: S) := by
  subst hp; exact Gl.st (fun _ q => XS.istoreN W.1.here W.2.1 rfl hd rfl hl q) K
theorem o_istore (W : Wk p l e R s m args below meth c own Z hb ws I T h locs cells slots) {k : Nat} {v : Int32} {L' : Array Slot} (hd : decode c.code pc = .ok (.istore k, 2)) (hl : storeLocals L k (.int v) = some L') (hp : pc + 2 = pc') (K : Gl p.tables e below P T m pc' L' S) : Gl p.tables e below P T m pc L (.int v :: S) := by
  subst hp; exact Gl.st (fun _ q => XS.istore W.1.here W.2.1 rfl hd rfl hl q) K
theorem o_aloadN (W : Wk p l e R s m args below meth c own Z hb ws I T h locs cells slots) {k : Fin 4} {v : Value} (hd : decode c.code pc = .ok (.aload_n k, 1)) (hl : L[k.val]? = some (.val v)) (hv : v.isRef = true) (hp : pc + 1 = pc') (K : Gl p.tables e below P T m pc' L (v :: S)) : Gl p.tables e below P T m pc L S := by
  subst hp; exact Gl.st (fun _ q => XS.aloadN W.1.here W.2.1 rfl hd hl hv q) K
theorem o_aload (W : Wk p l e R s m args below meth c own Z hb ws I T h locs cells slots) {k : Nat} {v : Value} (hd : decode c.code pc = .ok (.aload k, 2)) (hl : L[k]? = some (.val v)) (hv : v.isRef = true) (hp : pc + 2 = pc') (K : Gl p.tables e below P T m pc' L (v :: S)) : Gl p.tables e below P T m pc L S := by
  subst hp; exact Gl.st (fun _ q => XS.aload W.1.here W.2.1 rfl hd hl hv q) K
theorem o_astoreN (W : Wk p l e R s m args below meth c own Z hb ws I T h locs cells slots) {k : Fin 4} {v : Value} {L' : Array Slot} (hd : decode c.code pc = .ok (.astore_n k, 1)) (hv : v.isRef = true) (hl : storeLocals L k.val v = some L') (hp : pc + 1 = pc') (K : Gl p.tables e below P T m pc' L' S) : Gl p.tables e below P T m pc L (v :: S) := by
  subst hp; exact Gl.st (fun _ q => XS.astoreN W.1.here W.2.1 rfl hd rfl hv hl q) K
theorem o_astore (W : Wk p l e R s m args below meth c own Z hb ws I T h locs cells slots) {k : Nat} {v : Value} {L' : Array Slot} (hd : decode c.code pc = .ok (.astore k, 2)) (hv : v.isRef = true) (hl : storeLocals L k v = some L') (hp : pc + 2 = pc') (K : Gl p.tables e below P T m pc' L' S) : Gl p.tables e below P T m pc L (v :: S) := by
  subst hp; exact Gl.st (fun _ q => XS.astore W.1.here W.2.1 rfl hd rfl hv hl q) K
theorem o_iconst (W : Wk p l e R s m args below meth c own Z hb ws I T h locs cells slots) {i : Int} {v : Int32} (hd : decode c.code pc = .ok (.iconst i, 1)) (hv : Int32.ofInt i = v) (hp : pc + 1 = pc') (K : Gl p.tables e below P T m pc' L (.int v :: S)) : Gl p.tables e below P T m pc L S := by
  subst hp; exact Gl.st (fun _ q => XT.iconstV W.1.here W.2.1 rfl v hd hv q) K
theorem o_bipush (W : Wk p l e R s m args below meth c own Z hb ws I T h locs cells slots) {i : Int} {v : Int32} (hd : decode c.code pc = .ok (.bipush i, 2)) (hv : (Int8.ofInt i).toInt32 = v) (hp : pc + 2 = pc') (K : Gl p.tables e below P T m pc' L (.int v :: S)) : Gl p.tables e below P T m pc L S := by
  subst hp; exact Gl.st (fun _ q => XT.bipushV W.1.here W.2.1 rfl v hd hv q) K
theorem o_sipush (W : Wk p l e R s m args below meth c own Z hb ws I T h locs cells slots) {i : Int} {v : Int32} (hd : decode c.code pc = .ok (.sipush i, 3)) (hv : (Int16.ofInt i).toInt32 = v) (hp : pc + 3 = pc') (K : Gl p.tables e below P T m pc' L (.int v :: S)) : Gl p.tables e below P T m pc L S := by
  subst hp; exact Gl.st (fun _ q => XT.sipushV W.1.here W.2.1 rfl v hd hv q) K
theorem o_aconstNull (W : Wk p l e R s m args below meth c own Z hb ws I T h locs cells slots)  (hd : decode c.code pc = .ok (.aconst_null, 1)) (hp : pc + 1 = pc') (K : Gl p.tables e below P T m pc' L (.null :: S)) : Gl p.tables e below P T m pc L S := by
  subst hp; exact Gl.st (fun _ q => XS.aconstNull W.1.here W.2.1 rfl hd q) K
theorem o_iadd (W : Wk p l e R s m args below meth c own Z hb ws I T h locs cells slots) {x y v : Int32} (hd : decode c.code pc = .ok (.iadd, 1)) (hv : x + y = v) (hp : pc + 1 = pc') (K : Gl p.tables e below P T m pc' L (.int v :: S)) : Gl p.tables e below P T m pc L (.int y :: .int x :: S) := by
  subst hp; exact Gl.st (fun _ q => XS.iadd W.1.here W.2.1 rfl hd rfl (by rw [hv]; exact q)) K
theorem o_isub (W : Wk p l e R s m args below meth c own Z hb ws I T h locs cells slots) {x y v : Int32} (hd : decode c.code pc = .ok (.isub, 1)) (hv : x - y = v) (hp : pc + 1 = pc') (K : Gl p.tables e below P T m pc' L (.int v :: S)) : Gl p.tables e below P T m pc L (.int y :: .int x :: S) := by
  subst hp; exact Gl.st (fun _ q => XS.isub W.1.here W.2.1 rfl hd rfl (by rw [hv]; exact q)) K
theorem o_iand (W : Wk p l e R s m args below meth c own Z hb ws I T h locs cells slots) {x y v : Int32} (hd : decode c.code pc = .ok (.iand, 1)) (hv : x &&& y = v) (hp : pc + 1 = pc') (K : Gl p.tables e below P T m pc' L (.int v :: S)) : Gl p.tables e below P T m pc L (.int y :: .int x :: S) := by
  subst hp; exact Gl.st (fun _ q => XS.iand W.1.here W.2.1 rfl hd rfl (by rw [hv]; exact q)) K
theorem o_ior (W : Wk p l e R s m args below meth c own Z hb ws I T h locs cells slots) {x y v : Int32} (hd : decode c.code pc = .ok (.ior, 1)) (hv : x ||| y = v) (hp : pc + 1 = pc') (K : Gl p.tables e below P T m pc' L (.int v :: S)) : Gl p.tables e below P T m pc L (.int y :: .int x :: S) := by
  subst hp; exact Gl.st (fun _ q => XS.ior W.1.here W.2.1 rfl hd rfl (by rw [hv]; exact q)) K
theorem o_ishl (W : Wk p l e R s m args below meth c own Z hb ws I T h locs cells slots) {x v : Int32} {y : Int32} (hd : decode c.code pc = .ok (.ishl, 1)) (hv : x <<< (y &&& 31) = v) (hp : pc + 1 = pc') (K : Gl p.tables e below P T m pc' L (.int v :: S)) : Gl p.tables e below P T m pc L (.int y :: .int x :: S) := by
  subst hp; exact Gl.st (fun _ q => XS.ishl W.1.here W.2.1 rfl hd rfl (by rw [hv]; exact q)) K
theorem o_ishr (W : Wk p l e R s m args below meth c own Z hb ws I T h locs cells slots) {x v : Int32} {y : Int32} (hd : decode c.code pc = .ok (.ishr, 1)) (hv : x >>> (y &&& 31) = v) (hp : pc + 1 = pc') (K : Gl p.tables e below P T m pc' L (.int v :: S)) : Gl p.tables e below P T m pc L (.int y :: .int x :: S) := by
  subst hp; exact Gl.st (fun _ q => XS.ishr W.1.here W.2.1 rfl hd rfl (by rw [hv]; exact q)) K
theorem o_i2b (W : Wk p l e R s m args below meth c own Z hb ws I T h locs cells slots) {x : Int32} {v : Int32} (hd : decode c.code pc = .ok (.i2b, 1)) (hv : x.toInt8.toInt32 = v) (hp : pc + 1 = pc') (K : Gl p.tables e below P T m pc' L (.int v :: S)) : Gl p.tables e below P T m pc L (.int x :: S) := by
  subst hp; exact Gl.st (fun _ q => XS.i2b W.1.here W.2.1 rfl hd rfl (by rw [hv]; exact q)) K
theorem o_i2c (W : Wk p l e R s m args below meth c own Z hb ws I T h locs cells slots) {x : Int32} {v : Int32} (hd : decode c.code pc = .ok (.i2c, 1)) (hv : x.toUInt32.toUInt16.toUInt32.toInt32 = v) (hp : pc + 1 = pc') (K : Gl p.tables e below P T m pc' L (.int v :: S)) : Gl p.tables e below P T m pc L (.int x :: S) := by
  subst hp; exact Gl.st (fun _ q => XS.i2c W.1.here W.2.1 rfl hd rfl (by rw [hv]; exact q)) K
theorem o_iinc (W : Wk p l e R s m args below meth c own Z hb ws I T h locs cells slots) {k : Nat} {i : Int} {x v : Int32} {L' : Array Slot} (hd : decode c.code pc = .ok (.iinc k i, 3)) (hl : L[k]? = some (.val (.int x))) (hv : x + Int32.ofInt i = v) (hl' : storeLocals L k (.int v) = some L') (hp : pc + 3 = pc') (K : Gl p.tables e below P T m pc' L' S) : Gl p.tables e below P T m pc L S := by
  subst hp; exact Gl.st (fun _ q => XS.iinc W.1.here W.2.1 rfl hd hl (by rw [hv]; exact hl') q) K
theorem o_dup (W : Wk p l e R s m args below meth c own Z hb ws I T h locs cells slots) {x : Value} (hd : decode c.code pc = .ok (.dup, 1)) (hc : x.category = 1) (hp : pc + 1 = pc') (K : Gl p.tables e below P T m pc' L (x :: x :: S)) : Gl p.tables e below P T m pc L (x :: S) := by
  subst hp; exact Gl.st (fun _ q => XS.dup W.1.here W.2.1 rfl hd rfl hc q) K
theorem o_dupX1 (W : Wk p l e R s m args below meth c own Z hb ws I T h locs cells slots) {x y : Value} (hd : decode c.code pc = .ok (.dup_x1, 1)) (hc : x.category = 1) (hc' : y.category = 1) (hp : pc + 1 = pc') (K : Gl p.tables e below P T m pc' L (x :: y :: x :: S)) : Gl p.tables e below P T m pc L (x :: y :: S) := by
  subst hp; exact Gl.st (fun _ q => XS.dupX1 W.1.here W.2.1 rfl hd rfl hc hc' q) K
theorem o_pop (W : Wk p l e R s m args below meth c own Z hb ws I T h locs cells slots) {x : Value} (hd : decode c.code pc = .ok (.pop, 1)) (hc : x.category = 1) (hp : pc + 1 = pc') (K : Gl p.tables e below P T m pc' L S) : Gl p.tables e below P T m pc L (x :: S) := by
  subst hp; exact Gl.st (fun _ q => XS.pop W.1.here W.2.1 rfl hd rfl hc q) K
theorem o_goto (W : Wk p l e R s m args below meth c own Z hb ws I T h locs cells slots) {o : Int} (hd : decode c.code pc = .ok (.goto o, 3)) (ho : 0 ≤ (pc : Int) + o) (hp : ((pc : Int) + o).toNat = pc') (K : Gl p.tables e below P T m pc' L S) : Gl p.tables e below P T m pc L S := by
  exact Gl.st (fun _ q => XS.goto W.1.here W.2.1 rfl (pc0 := pc) rfl hd ho hp q) K
theorem o_ifY (W : Wk p l e R s m args below meth c own Z hb ws I T h locs cells slots) {o : Int} {cd : ClassFile.Cond} {x : Int32} (hd : decode c.code pc = .ok (.ifCond cd o, 3)) (hc : ifCond.holds cd x = true) (ho : 0 ≤ (pc : Int) + o) (hp : ((pc : Int) + o).toNat = pc') (K : Gl p.tables e below P T m pc' L S) : Gl p.tables e below P T m pc L (.int x :: S) := by
  exact Gl.st (fun _ q => XS.ifYes W.1.here W.2.1 rfl (pc0 := pc) rfl hd rfl hc ho hp q) K
theorem o_ifN (W : Wk p l e R s m args below meth c own Z hb ws I T h locs cells slots) {o : Int} {cd : ClassFile.Cond} {x : Int32} (hd : decode c.code pc = .ok (.ifCond cd o, 3)) (hc : ifCond.holds cd x = false) (hp : pc + 3 = pc') (K : Gl p.tables e below P T m pc' L S) : Gl p.tables e below P T m pc L (.int x :: S) := by
  subst hp; exact Gl.st (fun _ q => XS.ifNo W.1.here W.2.1 rfl hd rfl hc q) K
theorem o_icmpY (W : Wk p l e R s m args below meth c own Z hb ws I T h locs cells slots) {o : Int} {cd : ClassFile.Cond} {x y : Int32} (hd : decode c.code pc = .ok (.if_icmp cd o, 3)) (hc : if_icmp.holds cd x y = true) (ho : 0 ≤ (pc : Int) + o) (hp : ((pc : Int) + o).toNat = pc') (K : Gl p.tables e below P T m pc' L S) : Gl p.tables e below P T m pc L (.int y :: .int x :: S) := by
  exact Gl.st (fun _ q => XS.icmpYes W.1.here W.2.1 rfl (pc0 := pc) rfl hd rfl hc ho hp q) K
theorem o_icmpN (W : Wk p l e R s m args below meth c own Z hb ws I T h locs cells slots) {o : Int} {cd : ClassFile.Cond} {x y : Int32} (hd : decode c.code pc = .ok (.if_icmp cd o, 3)) (hc : if_icmp.holds cd x y = false) (hp : pc + 3 = pc') (K : Gl p.tables e below P T m pc' L S) : Gl p.tables e below P T m pc L (.int y :: .int x :: S) := by
  subst hp; exact Gl.st (fun _ q => XS.icmpNo W.1.here W.2.1 rfl hd rfl hc q) K
theorem o_ifnonnullY (W : Wk p l e R s m args below meth c own Z hb ws I T h locs cells slots) {o : Int} {b : Addr} (hd : decode c.code pc = .ok (.ifnonnull o, 3)) (ho : 0 ≤ (pc : Int) + o) (hp : ((pc : Int) + o).toNat = pc') (K : Gl p.tables e below P T m pc' L S) : Gl p.tables e below P T m pc L (.ref b :: S) := by
  exact Gl.st (fun _ q => XS.ifnonnullYes W.1.here W.2.1 rfl (pc0 := pc) rfl hd rfl ho hp q) K
theorem o_acmpY (W : Wk p l e R s m args below meth c own Z hb ws I T h locs cells slots) {o : Int} {cd : ClassFile.ACond} {x y : Value} (hd : decode c.code pc = .ok (.if_acmp cd o, 3)) (h1 : x.isRef = true) (h2 : y.isRef = true) (hc : XT.acmp cd x y = true) (ho : 0 ≤ (pc : Int) + o) (hp : ((pc : Int) + o).toNat = pc') (K : Gl p.tables e below P T m pc' L S) : Gl p.tables e below P T m pc L (y :: x :: S) := by
  exact Gl.st (fun _ q => XT.acmpYes W.1.here W.2.1 rfl (pc0 := pc) rfl hd rfl h1 h2 hc ho hp q) K
theorem o_acmpN (W : Wk p l e R s m args below meth c own Z hb ws I T h locs cells slots) {o : Int} {cd : ClassFile.ACond} {x y : Value} (hd : decode c.code pc = .ok (.if_acmp cd o, 3)) (h1 : x.isRef = true) (h2 : y.isRef = true) (hc : XT.acmp cd x y = false) (hp : pc + 3 = pc') (K : Gl p.tables e below P T m pc' L S) : Gl p.tables e below P T m pc L (y :: x :: S) := by
  subst hp; exact Gl.st (fun _ q => XT.acmpNo W.1.here W.2.1 rfl hd rfl h1 h2 hc q) K
theorem o_getF (W : Wk p l e R s m args below meth c own Z hb ws I T h locs cells slots) {R0 O n d : String} {index : Nat} (w : (Cond.fieldLink own index R0 n d).before a0 Z = true) (via : Via Z R0 O n d) {a : Addr} {v : Value} (F : Fld Z h a O n d v) (hd : decode c.code pc = .ok (.getfield index, 3)) (hp : pc + 3 = pc')
    (K : ∀ T', Wk p l e R s m args below meth c own Z hb ws I T' h locs cells slots → Gl p.tables e below P T' m pc' L (v :: S)) : Gl p.tables e below P T m pc L (.ref a :: S) := by
  subst hp
  obtain ⟨X, hx, eT, hZ, ho, r⟩ := W
  obtain ⟨T', X', e', st⟩ := getF X hx hZ ho (host := "") (Or.inl w) via eT F (g := mkF m pc L (.ref a :: S)) rfl rfl hd
  exact Gl.st st (K T' ⟨X', hx, e', hZ, ho, r⟩)
theorem o_getS (W : Wk p l e R s m args below meth c own Z hb ws I T h locs cells slots) {R0 O n d : String} {index : Nat} (w : (Cond.fieldLink own index R0 n d).before a0 Z = true) (via : Via Z R0 O n d) {v : Value} (F : Sta Z h O n d v) (hd : decode c.code pc = .ok (.getstatic index, 3)) (hp : pc + 3 = pc')
    (K : ∀ T', Wk p l e R s m args below meth c own Z hb ws I T' h locs cells slots → Gl p.tables e below P T' m pc' L (v :: S)) : Gl p.tables e below P T m pc L S := by
  subst hp
  obtain ⟨X, hx, eT, hZ, ho, r⟩ := W
  obtain ⟨T', X', e', st⟩ := getS (host := "") X hx hZ ho w via eT F (g := mkF m pc L S) rfl hd
  exact Gl.st st (K T' ⟨X', hx, e', hZ, ho, r⟩)
theorem o_putF (W : Wk p l e R s m args below meth c own Z hb ws I T h locs cells slots) {R0 O n d C : String} {index kk : Nat} {ty : FieldType} (w : (Cond.fieldLink own index R0 n d).before a0 Z = true) (via : Via Z R0 O n d) {a : Addr} {v v' old : Value} (F : Fld Z h a O n d old) (E : Exa Z h a C)
    (Lz : (Cond.lays C O n d).before a0 Z = true ∨ ((Cond.laysFinal C O n d).before a0 Z = true ∧ own = O ∧ meth.name = "<init>")) (wi : (Cond.instantiable C kk).before a0 Z = true) (hty : parseFieldDescriptor d = some ty) (hn : narrow ty v = v') (hf : fits ty v' = true)
    (g1 : Z.heap.size ≤ a) (g2 : a ∈ ws ∨ hb.size ≤ a) (hI : ∀ h', Wr h h' a (Jvm.RoadKit.slotOf Z O n d) v' → I h') (hd : decode c.code pc = .ok (.putfield index, 3)) (hp : pc + 3 = pc')
    (K : ∀ T' h' locs', Wk p l e R s m args below meth c own Z hb ws I T' h' locs' cells slots → Wr h h' a (Jvm.RoadKit.slotOf Z O n d) v' → Gl p.tables e below P T' m pc' L S) : Gl p.tables e below P T m pc L (v :: .ref a :: S) := by
  subst hp
  obtain ⟨X, hx, eT, hZ, ho, o, fr, kp, i⟩ := W
  obtain ⟨T', h', X', e', Wr', st⟩ := putFN X hx hZ ho w via eT F E Lz wi hty hn hf (g := mkF m pc L (v :: .ref a :: S)) rfl rfl hd
  exact Gl.st st (K T' h' _ ⟨X', hx, e', hZ, ho, o.wr Wr' g1, Fr.snoc X' fr g1, kp.wr Wr' g2, hI _ Wr'⟩ Wr')
theorem o_new (W : Wk p l e R s m args below meth c own Z hb ws I T h locs cells slots) {C : String} {index n : Nat} (w : (Cond.classLink own index C).before a0 Z = true) (wi : (Cond.instantiable C n).before a0 Z = true) (wz : (Cond.initialized C).before a0 Z = true) (hI : ∀ h', Ext h h' → I h')
    (hd : decode c.code pc = .ok (.new index, 3)) (hp : pc + 3 = pc') (hc' : cells + 1 = cells') (hs' : slots + n = slots') (hc : cells' ≤ R.cells) (hs : slots' ≤ R.slots)
    (K : ∀ b T' h', Wk p l e R s m args below meth c own Z hb ws I T' h' locs cells' slots' → Ext h h' → h.size ≤ b → Z.heap.size ≤ b → hb.size ≤ b → Exa Z h' b C → (∀ {O nm d : String} {ty : FieldType}, Laid Z a0 C O nm d → parseFieldDescriptor d = some ty → Fld Z h' b O nm d (defaultValue ty)) → Gl p.tables e below P T' m pc' L (.ref b :: S)) : Gl p.tables e below P T m pc L S := by
  subst hp hc' hs'
  obtain ⟨X, hx, eT, hZ, ho, o, fr, kp, i⟩ := W
  obtain ⟨T', h', X', e', E, A, D, -, st⟩ := newO X hx hZ ho w wi wz eT (g := mkF m pc L S) rfl hd hc hs
  exact Gl.st st (K _ T' h' ⟨X', hx, e', hZ, ho, o.ext E, fr, kp.ext E, hI _ E⟩ E (Nat.le_refl _) o.2.1 kp.1 A D)
theorem o_newP (W : Wk p l e R s m args below meth c own Z hb ws I T h locs cells slots) {aty : ArrayType} (w : (Cond.arrayClass (newarray.typeOf aty)).before a0 Z = true) (hI : ∀ h', Ext h h' → I h') {n : Int32} (hn : ¬ n < 0) {cap : Nat} (hcap : n.toNatClampNeg ≤ cap) (hb8 : cap * 8 ≤ 536870912)
    (hd : decode c.code pc = .ok (.newarray aty, 2)) (hp : pc + 2 = pc') (hc' : cells + 1 = cells') (hs' : slots + cap = slots') (hc : cells' ≤ R.cells) (hs : slots' ≤ R.slots) {vs : List Value} {dv : Value} (hdv : defaultValue (newarray.typeOf aty) = dv) (hv : vs = List.replicate vs.length dv)
    (K : ∀ b T' h' k, Wk p l e R s m args below meth c own Z hb ws I T' h' locs cells' slots' → Ext h h' → h.size ≤ b → Z.heap.size ≤ b → hb.size ≤ b → Arv Z h' b k (newarray.typeOf aty) n vs dv → Gl p.tables e below P T' m pc' L (.ref b :: S)) : Gl p.tables e below P T m pc L (.int n :: S) := by
  subst hp hc' hs' hdv
  obtain ⟨X, hx, eT, hZ, ho, o, fr, kp, i⟩ := W
  obtain ⟨T', h', k, X', e', E, A, st⟩ := newP X hx hZ w eT (g := mkF m pc L (.int n :: S)) rfl hd rfl hn hcap hb8 hc hs
  exact Gl.st st (K _ T' h' k ⟨X', hx, e', hZ, ho, o.ext E, fr, kp.ext E, hI _ E⟩ E (Nat.le_refl _) o.2.1 kp.1 ((Arv.new A hn).pad (by rw [hv]; exact pad_rep [] _ _)))
theorem o_len (W : Wk p l e R s m args below meth c own Z hb ws I T h locs cells slots) {a : Addr} {k : ClassId} {ty : FieldType} {z : Int32} {vs : List Value} {dv : Value} (V : Arv Z h a k ty z vs dv) (hd : decode c.code pc = .ok (.arraylength, 1)) (hp : pc + 1 = pc')
    (K : Gl p.tables e below P T m pc' L (.int z :: S)) : Gl p.tables e below P T m pc L (.ref a :: S) := by
  subst hp
  obtain ⟨X, hx, eT, hZ, ho, r⟩ := W
  obtain ⟨cl, A, -, Sz, N, -⟩ := V
  refine Gl.st (X.arraylength hx (by rw [eT]; exact A.1) (State.isArrayOf_alike hZ.alike A.2.1) (g := mkF m pc L (.ref a :: S)) rfl rfl hd) ?_
  rw [len_of Sz N]; exact K
theorem own_inb {z j : Int32} {c : Cell} {i : Nat} (Sz : c.slots.size = z.toNatClampNeg) (hj : j.toNatClampNeg = i) (hj0 : ¬ j < 0) (hi : i < z.toNatClampNeg) : ¬ (j < 0 ∨ c.slots.size ≤ j.toNatClampNeg) := by
  rintro (q | q)
  · exact hj0 q
  · rw [Sz, hj] at q; omega
theorem o_stC (W : Wk p l e R s m args below meth c own Z hb ws I T h locs cells slots) {a : Addr} {k : ClassId} {z : Int32} {vs vs' : List Value} {dv : Value} (V : Arv Z h a k .char z vs dv) {j x x' : Int32} {i : Nat} (hj : j.toNatClampNeg = i) (hj0 : ¬ j < 0) (hi : i < z.toNatClampNeg) (hi' : i < vs.length) (hx' : nar .char x = x') (hv : vs.set i (.int x') = vs')
    (g1 : Z.heap.size ≤ a) (g2 : a ∈ ws ∨ hb.size ≤ a) (hI : ∀ h', Wr h h' a i (.int x') → I h') (hd : decode c.code pc = .ok (.castore, 1)) (hp : pc + 1 = pc')
    (K : ∀ T' h' locs', Wk p l e R s m args below meth c own Z hb ws I T' h' locs' cells slots → Wr h h' a i (.int x') → Arv Z h' a k .char z vs' dv → Gl p.tables e below P T' m pc' L S) : Gl p.tables e below P T m pc L (.int x :: .int j :: .ref a :: S) := by
  subst hp hx' hv
  obtain ⟨X, hx, eT, hZ, ho, o, fr, kp, i'⟩ := W
  obtain ⟨cl, A, q, Sz, N, H, G⟩ := V
  obtain ⟨T', h', X', e', Wr', st⟩ := stC X hx hZ eT A (own_inb Sz hj hj0 hi) (g := mkF m pc L (.int x :: .int j :: .ref a :: S)) rfl rfl hd
  have V' := Arv.set A q Sz N H G (fits_nar_char x) Wr' i hj hi'
  subst hj
  exact Gl.st st (K T' h' _ ⟨X', hx, e', hZ, ho, o.wr Wr' g1, Fr.snoc X' fr g1, kp.wr Wr' g2, hI _ Wr'⟩ Wr' V')
theorem o_stB (W : Wk p l e R s m args below meth c own Z hb ws I T h locs cells slots) {a : Addr} {k : ClassId} {z : Int32} {vs vs' : List Value} {dv : Value} (V : Arv Z h a k .byte z vs dv) {j x x' : Int32} {i : Nat} (hj : j.toNatClampNeg = i) (hj0 : ¬ j < 0) (hi : i < z.toNatClampNeg) (hi' : i < vs.length) (hx' : nar .byte x = x') (hv : vs.set i (.int x') = vs')
    (g1 : Z.heap.size ≤ a) (g2 : a ∈ ws ∨ hb.size ≤ a) (hI : ∀ h', Wr h h' a i (.int x') → I h') (hd : decode c.code pc = .ok (.bastore, 1)) (hp : pc + 1 = pc')
    (K : ∀ T' h' locs', Wk p l e R s m args below meth c own Z hb ws I T' h' locs' cells slots → Wr h h' a i (.int x') → Arv Z h' a k .byte z vs' dv → Gl p.tables e below P T' m pc' L S) : Gl p.tables e below P T m pc L (.int x :: .int j :: .ref a :: S) := by
  subst hp hx' hv
  obtain ⟨X, hx, eT, hZ, ho, o, fr, kp, i'⟩ := W
  obtain ⟨cl, A, q, Sz, N, H, G⟩ := V
  obtain ⟨T', h', X', e', Wr', st⟩ := stB X hx hZ eT A (own_inb Sz hj hj0 hi) (g := mkF m pc L (.int x :: .int j :: .ref a :: S)) rfl rfl hd
  have V' := Arv.set A q Sz N H G (fits_nar_byte x) Wr' i hj hi'
  subst hj
  exact Gl.st st (K T' h' _ ⟨X', hx, e', hZ, ho, o.wr Wr' g1, Fr.snoc X' fr g1, kp.wr Wr' g2, hI _ Wr'⟩ Wr' V')
theorem o_baload (W : Wk p l e R s m args below meth c own Z hb ws I T h locs cells slots) {a : Addr} {k : ClassId} {z : Int32} {vs : List Value} {dv : Value} (V : Arv Z h a k .byte z vs dv) {j x : Int32} {i : Nat} (hj : j.toNatClampNeg = i) (hj0 : ¬ j < 0) (hi : i < z.toNatClampNeg) (hv : vs.getD i dv = .int x) (hd : decode c.code pc = .ok (.baload, 1)) (hp : pc + 1 = pc')
    (K : Gl p.tables e below P T m pc' L (.int x :: S)) : Gl p.tables e below P T m pc L (.int j :: .ref a :: S) := by
  subst hp hj
  obtain ⟨X, hx, eT, hZ, ho, r⟩ := W
  obtain ⟨cl, A, -, Sz, N, H, -⟩ := V
  have hin := own_inb Sz rfl hj0 hi
  exact Gl.st (X.baloadBytes hx (by rw [eT]; exact A.1) (State.isArrayOf_alike hZ.alike A.2.1) A.2.2 hin (H.at hin hv) (g := mkF m pc L (.int j :: .ref a :: S)) rfl rfl hd) K
theorem o_cast (W : Wk p l e R s m args below meth c own Z hb ws I T h locs cells slots) {K0 : String} {index : Nat} (w : (Cond.classLink own index K0).before a0 Z = true) {a : Addr} (F : Ins Z h a K0 true) (hd : decode c.code pc = .ok (.checkcast index, 3)) (hp : pc + 3 = pc')
    (K : ∀ T', Wk p l e R s m args below meth c own Z hb ws I T' h locs cells slots → Gl p.tables e below P T' m pc' L (.ref a :: S)) : Gl p.tables e below P T m pc L (.ref a :: S) := by
  subst hp
  obtain ⟨X, hx, eT, hZ, ho, r⟩ := W
  obtain ⟨T', X', e', st⟩ := castY X hx hZ ho w eT F (g := mkF m pc L (.ref a :: S)) rfl rfl hd
  exact Gl.st st (K T' ⟨X', hx, e', hZ, ho, r⟩)
theorem o_instY (W : Wk p l e R s m args below meth c own Z hb ws I T h locs cells slots) {K0 : String} {index : Nat} (w : (Cond.classLink own index K0).before a0 Z = true) {a : Addr} (F : Ins Z h a K0 true) (hd : decode c.code pc = .ok (.instanceof index, 3)) (hp : pc + 3 = pc')
    (K : ∀ T', Wk p l e R s m args below meth c own Z hb ws I T' h locs cells slots → Gl p.tables e below P T' m pc' L (.int 1 :: S)) : Gl p.tables e below P T m pc L (.ref a :: S) := by
  subst hp
  obtain ⟨X, hx, eT, hZ, ho, r⟩ := W
  obtain ⟨T', X', e', st⟩ := instY X hx hZ ho w eT F (g := mkF m pc L (.ref a :: S)) rfl rfl hd
  exact Gl.st st (K T' ⟨X', hx, e', hZ, ho, r⟩)
theorem o_initO (W : Wk p l e R s m args below meth c own Z hb ws I T h locs cells slots) {idx : Nat} (w1 : (Cond.methodLink own idx Lib.objectInit).before a0 Z = true) (w2 : (Cond.instanceMethod Lib.objectInit).before a0 Z = true) (w3 : (Cond.code Lib.objectInit ⟨#[0xb1]⟩ 1 none).before a0 Z = true) {a : Addr} (hml : L.size = c.maxLocals)
    (hd : decode c.code pc = .ok (.invokespecial idx, 3)) (hp : pc + 3 = pc') (hf : 1 ≤ R.frames) (Wd : Nat) (hW : 2 * 0 + (S.map fun v => v.category).sum ≤ Wd) (hl : Wd + 12 ≤ R.locals)
    (K : ∀ T', Wk p l e R s m args below meth c own Z hb ws I T' h locs cells slots → Gl p.tables e below P T' m pc' L S) : Gl p.tables e below P T m pc L (.ref a :: S) := by
  subst hp
  obtain ⟨X, hx, eT, hZ, ho, r⟩ := W
  obtain ⟨T', X', e', st⟩ := initO X hx hZ ho w1 w2 w3 eT (g := mkF m pc L (.ref a :: S)) rfl hml rfl hd hf hW hl
  exact Gl.st st (K T' ⟨X', hx, e', hZ, ho, r⟩)
abbrev BackQ (l : Launch) (R : Room) (p : Program) (e : Env) (below : List Frame) (s : State) (args : Array Value) (y : MethodName) (len Wd : Nat) (as' : Array Value) (h : Heap) (kc ks : Nat) (Q : Option Value → Heap → List Loc → Prop) : Prop :=
  Back l R p e below s args y len Wd (fun A a => a = as' ∧ A.U.heap = h ∧ A.cells + kc ≤ R.cells ∧ A.slots + ks ≤ R.slots) (fun A _ v B => ∃ L, Q v B.U.heap L ∧ B.locs = A.locs ++ L ∧ B.cells = A.cells + kc ∧ B.slots = A.slots + ks)
theorem o_after (W : Wk p l e R s m args below meth c own Z hb ws I T h locs cells slots) {B : Pt} {v : Option Value} {kc ks : Nat} {Q : Option Value → Heap → List Loc → Prop} {wy : List Addr} (X' : Stand p l e R s m args below meth c B.U B.locs B.cells B.slots) (hpost : ∃ L, Q v B.U.heap L ∧ B.locs = locs ++ L ∧ B.cells = cells + kc ∧ B.slots = slots + ks)
    (hq : ∀ v hh L, Q v hh L → Fr Z.heap.size L ∧ Keep h hh wy) (hg : ∀ x ∈ wy, Z.heap.size ≤ x ∧ (x ∈ ws ∨ hb.size ≤ x)) (hI : ∀ h', Keep h h' wy → I h') :
    ∃ L, Q v B.U.heap L ∧ Keep h B.U.heap wy ∧ Wk p l e R s m args below meth c own Z hb ws I B.U B.U.heap (locs ++ L) (cells + kc) (slots + ks) := by
  obtain ⟨X, hx, eT, hZ, ho, o, fr, kp, i⟩ := W
  obtain ⟨⟨U, lo, kc', ks'⟩, rfl⟩ : ∃ B', B' = B := ⟨_, rfl⟩
  obtain ⟨L', q, e1, e2, e3⟩ := hpost
  have e1 : lo = locs ++ L' := e1
  have e2 : kc' = cells + kc := e2
  have e3 : ks' = slots + ks := e3
  subst e1 e2 e3
  obtain ⟨f, k⟩ := hq _ _ _ q
  exact ⟨L', q, k, X', hx, rfl, hZ, ho, o.keep k (fun x hx => (hg x hx).1), fr.app f, kp.trans k (fun x hx => (hg x hx).2), hI _ k⟩
theorem o_static (W : Wk p l e R s m args below meth c own Z hb ws I T h locs cells slots) {index : Nat} {y : MethodName} {bytes : ByteArray} {maxL : Nat} {ret : Option FieldType} (w1 : (Cond.methodLink own index y).before a0 Z = true) (w2 : (Cond.static y).before a0 Z = true) (w3 : (Cond.initialized y.cls).before a0 Z = true) (w4 : (Cond.code y bytes maxL ret).before a0 Z = true)
    (hy : y.cls ≠ "java/lang/invoke/MethodHandle" ∧ y.cls ≠ "java/lang/invoke/VarHandle") {Wd kc ks : Nat} {Q : Option Value → Heap → List Loc → Prop} {argsL : List Value} (B : BackQ l R p e below s args y 3 Wd argsL.toArray h kc ks Q) (hml : L.size = c.maxLocals)
    (hlen : ∀ sig, parseMethodDescriptor y.desc = some sig → argsL.length = sig.parameters.length) {S0 : List Value} (hS : S0 = argsL.reverse ++ S) (hW : 2 * 0 + (S.map fun v => v.category).sum ≤ Wd) (hd : decode c.code pc = .ok (.invokestatic index, 3)) (hp : pc + 3 = pc')
    (hc' : cells + kc = cells') (hs' : slots + ks = slots') (hc : cells' ≤ R.cells) (hs : slots' ≤ R.slots) {wy : List Addr} (hq : ∀ v hh L, Q v hh L → Fr Z.heap.size L ∧ Keep h hh wy) (hg : ∀ x ∈ wy, Z.heap.size ≤ x ∧ (x ∈ ws ∨ hb.size ≤ x)) (hI : ∀ h', Keep h h' wy → I h')
    (K : ∀ v T' h' Lc, Wk p l e R s m args below meth c own Z hb ws I T' h' (locs ++ Lc) cells' slots' → Keep h h' wy → Q v h' Lc → Gl p.tables e below P T' m pc' L (v.toList ++ S)) : Gl p.tables e below P T m pc L S0 := by
  subst hp hc' hs' hS
  obtain ⟨v, vm₁, B', -, X', hpost, st⟩ := Jvm.LawKit.callS W.1 W.2.1 W.2.2.2.2.1 (mvT W.2.2.2.1 w1) (mvT W.2.2.2.1 w2) (mvT W.2.2.2.1 w3) (mvT W.2.2.2.1 w4) hy B (g := mkF m pc L (argsL.reverse ++ S)) rfl hml hlen rfl hW hd (fun _ _ => ⟨rfl, W.2.2.1, hc, hs⟩)
  obtain ⟨Lc, q, k, W'⟩ := o_after W X' hpost hq hg hI
  exact Gl.st st (K v _ _ Lc W' k q)
theorem o_special (W : Wk p l e R s m args below meth c own Z hb ws I T h locs cells slots) {index : Nat} {y : MethodName} {bytes : ByteArray} {maxL : Nat} (hy1 : y.name = "<init>") (w1 : (Cond.methodLink own index y).before a0 Z = true) (w2 : (Cond.instanceMethod y).before a0 Z = true) (w4 : (Cond.code y bytes maxL none).before a0 Z = true)
    (hy : y.cls ≠ "java/lang/invoke/MethodHandle" ∧ y.cls ≠ "java/lang/invoke/VarHandle") {Wd kc ks : Nat} {Q : Option Value → Heap → List Loc → Prop} {a : Addr} {argsL : List Value} (B : BackQ l R p e below s args y 3 Wd (.ref a :: argsL).toArray h kc ks Q) (hml : L.size = c.maxLocals)
    (hlen : ∀ sig, parseMethodDescriptor y.desc = some sig → argsL.length = sig.parameters.length) {S0 : List Value} (hS : S0 = argsL.reverse ++ .ref a :: S) (hW : 2 * 0 + (S.map fun v => v.category).sum ≤ Wd) (hd : decode c.code pc = .ok (.invokespecial index, 3)) (hp : pc + 3 = pc')
    (hc' : cells + kc = cells') (hs' : slots + ks = slots') (hc : cells' ≤ R.cells) (hs : slots' ≤ R.slots) {wy : List Addr} (hq : ∀ v hh L, Q v hh L → Fr Z.heap.size L ∧ Keep h hh wy) (hg : ∀ x ∈ wy, Z.heap.size ≤ x ∧ (x ∈ ws ∨ hb.size ≤ x)) (hI : ∀ h', Keep h h' wy → I h')
    (K : ∀ v T' h' Lc, Wk p l e R s m args below meth c own Z hb ws I T' h' (locs ++ Lc) cells' slots' → Keep h h' wy → Q v h' Lc → Gl p.tables e below P T' m pc' L (v.toList ++ S)) : Gl p.tables e below P T m pc L S0 := by
  subst hp hc' hs' hS
  obtain ⟨v, vm₁, B', -, X', hpost, st⟩ := W.1.specialBack W.2.1 hy1 W.2.2.2.2.1 (mvT W.2.2.2.1 w1) (mvT W.2.2.2.1 w2) (mvT W.2.2.2.1 w4) hy B (g := mkF m pc L (argsL.reverse ++ .ref a :: S)) rfl hml (Steps.refl _) hlen rfl hW hd (fun _ _ => ⟨rfl, W.2.2.1, hc, hs⟩)
  obtain ⟨Lc, q, k, W'⟩ := o_after W X' hpost hq hg hI
  exact Gl.tr st (K v _ _ Lc W' k q)
theorem o_virtual (W : Wk p l e R s m args below meth c own Z hb ws I T h locs cells slots) {index : Nat} {C : String} {y z : MethodName} (w1 : (Cond.methodLink own index y).before a0 Z = true) (w2 : (Cond.declares y).before a0 Z = true) (hnf : NotFace s y) (w3 : (Cond.selects C y z).before a0 Z = true) (w4 : (Cond.instanceMethod z).before a0 Z = true)
    (hy : y.cls ≠ "java/lang/invoke/MethodHandle" ∧ y.cls ≠ "java/lang/invoke/VarHandle") {Wd kc ks : Nat} {Q : Option Value → Heap → List Loc → Prop} {a : Addr} (E : Exa Z h a C) {argsL : List Value} (B : BackQ l R p e below s args z 3 Wd (.ref a :: argsL).toArray h kc ks Q) (hml : L.size = c.maxLocals)
    (hlen : ∀ sig, parseMethodDescriptor y.desc = some sig → argsL.length = sig.parameters.length) {S0 : List Value} (hS : S0 = argsL.reverse ++ .ref a :: S) (hW : 2 * 0 + (S.map fun v => v.category).sum ≤ Wd) (hd : decode c.code pc = .ok (.invokevirtual index, 3)) (hp : pc + 3 = pc')
    (hc' : cells + kc = cells') (hs' : slots + ks = slots') (hc : cells' ≤ R.cells) (hs : slots' ≤ R.slots) {wy : List Addr} (hq : ∀ v hh L, Q v hh L → Fr Z.heap.size L ∧ Keep h hh wy) (hg : ∀ x ∈ wy, Z.heap.size ≤ x ∧ (x ∈ ws ∨ hb.size ≤ x)) (hI : ∀ h', Keep h h' wy → I h')
    (K : ∀ v T' h' Lc, Wk p l e R s m args below meth c own Z hb ws I T' h' (locs ++ Lc) cells' slots' → Keep h h' wy → Q v h' Lc → Gl p.tables e below P T' m pc' L (v.toList ++ S)) : Gl p.tables e below P T m pc L S0 := by
  subst hp hc' hs' hS
  obtain ⟨cB, kB, q1, q2, q3⟩ := isOf W.2.2.2.1 W.2.2.1 E
  obtain ⟨v, vm₁, B', -, X', hpost, st⟩ := W.1.virtualBack W.2.1 W.2.2.2.2.1 (mvT W.2.2.2.1 w1) (mvT W.2.2.2.1 w2) hnf (mvT W.2.2.2.1 w3) (mvT W.2.2.2.1 w4) hy B q1 q3 (g := mkF m pc L (argsL.reverse ++ .ref a :: S)) rfl hml (Steps.refl _) hlen rfl hW hd (fun _ _ => ⟨rfl, W.2.2.1, hc, hs⟩)
  obtain ⟨Lc, q, k, W'⟩ := o_after W X' hpost hq hg hI
  exact Gl.tr st (K v _ _ Lc W' k q)
theorem o_nf (W : Wk p l e R s m args below meth c own Z hb ws I T h locs cells slots) {C : String} {y z : MethodName} (hyz : y = z) (w : (Cond.selects C y z).before a0 Z = true) : NotFace s y := by
  subst hyz
  exact notFace_of_selects (args := #[]) (mvT W.2.2.2.1 w)
def CtrN (l : Launch) (Z : State) (y : MethodName) (bytes : ByteArray) (maxL : Nat) (ret : Option FieldType) (xs : List Jvm.Cond) (rm : Room) (as' : Array Value) (h0 : Heap) (wy : List Addr) (Q : Option Value → Heap → Prop) : Prop :=
  MetFree l y (head1 (Jvm.Cond.code y bytes maxL ret :: xs) rm) (fun a U => a = as' ∧ Z.Warmed39 U.vm ∧ U.heap = h0) (fun _ _ _ _ _ => True) (fun _ U o U' => ∃ v L, o = .returned v ∧ (Fr Z.heap.size L ∧ Keep h0 U'.heap wy ∧ Q v U'.heap) ∧ FrameEnd U o U' L rm.cells rm.slots)
def PN (s : State) (Z : State) (below : List Frame) (h0 : Heap) (wy : List Addr) (rm : Room) (Q : Option Value → Heap → Prop) (s₂ : State) (o : Outcome) : Prop := s₂.status = .running ∧ Ended s₂ below o ∧ ∃ v L, o = .returned v ∧ (Fr Z.heap.size L ∧ Keep h0 s₂.heap wy ∧ Q v s₂.heap) ∧ FrameEnd s o s₂ L rm.cells rm.slots
theorem own_entry {as : List Value} {n : Nat} {Ls : List Slot} (h : Jvm.Sym.laidSlots as ++ List.replicate (n - (Jvm.Sym.laidSlots as).length) Slot.unset = Ls) (m : MethodId) : entryFrame m as.toArray n = mkF m 0 Ls.toArray [] := by
  have e : argsToLocals as.toArray n = Ls.toArray := Array.toList_inj.mp ((Jvm.Sym.argsToLocals_toList _ _).trans h)
  exact congrArg (fun L => mkF m 0 L []) e
theorem CtrN.intro {y : MethodName} {bytes : ByteArray} {maxL : Nat} {ret : Option FieldType} {xs : List Jvm.Cond} {rm : Room} {as' : Array Value} {h0 : Heap} {wy : List Addr} {Q : Option Value → Heap → Prop} {L0 : Array Slot} (hx : plainFor y = true) (O : Old Z Z.heap.size h0) (hef : ∀ m, entryFrame m as' maxL = mkF m 0 L0 [])
    (body : ∀ (p : Program) (e : Env) (s : State) (m : MethodId) (below : List Frame) (meth : Method) (c : Code) (T : State), c.code = bytes → c.maxLocals = maxL → meth.sig.returnType = ret → meth.locks = false → meth.name = y.name → Wk p l e rm s m as' below meth c y.cls Z h0 wy (fun _ => True) T h0 [] 0 0 → Gl p.tables e below (PN s Z below h0 wy rm Q) T m 0 L0 []) :
    CtrN l Z y bytes maxL ret xs rm as' h0 wy Q := by
  refine MetFree.of_bodySF hx hisR ?_
  intro p e s m args below meth c s₁ Bd hml hP hK
  obtain ⟨rfl, hZ, hh⟩ := hP
  have e0 : s₁.heap = h0 := by rw [← hh, Bd.state]; rfl
  obtain ⟨s2, o, g1, g2, g3, g4⟩ := body p e s m below meth c s₁ Bd.bytes hml Bd.returns Bd.notSynchronized (name_of_methodNamed Bd.named Bd.method).1 ⟨Stand.of_body Bd, Bd.exec, e0, hZ, findClass_of_methodNamed Bd.named, O, Fr.nil _, Keep.refl _ _, trivial⟩
  exact ⟨s2, o, castTop (hef m) g1, g2, g3, g4⟩
theorem CtrN.back {y : MethodName} {bytes : ByteArray} {maxL : Nat} {ret : Option FieldType} {rm : Room} {as' : Array Value} {wy : List Addr} {Q : Option Value → Heap → Prop} {len Wd : Nat} (W : Wk p l e R s m args below meth c own Z hb ws I T h locs cells slots) (C : CtrN l Z y bytes maxL ret [] rm as' h wy Q) (wc : (Cond.code y bytes maxL ret).before a0 Z = true) (wz : (Cond.initialized y.cls).before a0 Z = true)
    (hf : rm.frames + 1 ≤ R.frames) (hl : Wd + (maxL + 11) + rm.locals ≤ R.locals) : BackQ l R p e below s args y len Wd as' h rm.cells rm.slots (fun v hh L => Fr Z.heap.size L ∧ Keep h hh wy ∧ Q v hh) :=
  backOf (Q := fun v hh L => Fr Z.heap.size L ∧ Keep h hh wy ∧ Q v hh) C W.2.2.2.1 wc wz hf hl
theorem o_leaveN {y0 : List Addr} {Q : Option Value → Heap → Prop} {rm : Room} (W : Wk p l e rm s m args below meth c own Z hb ws I T h locs cells slots) (hlk : meth.locks = false) {v : Option Value} (hv : meth.sig.returnType = none → v = none) (hq : Q v h) (hc : cells ≤ rm.cells) (hs : slots ≤ rm.slots) (st : ∀ fs, (∀ (f : JFrame) (acts : List Action), f.method = m → f.locked = none → f.entered = [] → (doReturn e (T.setTop f) acts v).1 = T.setFrames fs) → Steps p.tables e below (T.setTop (mkF m pc L S)) (T.setFrames fs)) :
    Gl p.tables e below (PN s Z below hb ws rm Q) T m pc L S := by
  obtain ⟨X, hx, eT, hZ, ho, o, fr, kp, i⟩ := W
  obtain ⟨fs, hr, hrun, hended, hW, hsame⟩ := X.leave (v := v) hv
  have eh : (T.setFrames fs).heap = h := eT
  exact ⟨_, _, st fs hr, hrun, hended, v, locs, rfl, ⟨fr, by rw [eh]; exact kp, by rw [eh]; exact hq⟩, ⟨_, rfl⟩, hW, hsame.mono hc hs⟩
theorem o_retI (W : Wk p l e R s m args below meth c own Z hb ws I T h locs cells slots) (hlk : meth.locks = false) {Q : Option Value → Heap → Prop} {z : Int32} (hret : meth.sig.returnType = some .int) (hd : decode c.code pc = .ok (.ireturn, 1)) (hc : cells ≤ R.cells) (hs : slots ≤ R.slots) (hq : Q (some (.int z)) h) : Gl p.tables e below (PN s Z below hb ws R Q) T m pc L (.int z :: S) :=
  o_leaveN (y0 := []) W hlk (fun q => by rw [hret] at q; cases q) hq hc hs fun fs hr => retOut W.1 W.2.1 hret rfl (Or.inl ⟨rfl, Or.inl rfl, _, rfl⟩) hd hr
theorem o_retN (W : Wk p l e R s m args below meth c own Z hb ws I T h locs cells slots) (hlk : meth.locks = false) {Q : Option Value → Heap → Prop} {z z' : Int32} {t : FieldType} (hret : meth.sig.returnType = some t) (ht : t = .boolean ∨ t = .byte ∨ t = .char ∨ t = .short) (hz : nar t z = z') (hd : decode c.code pc = .ok (.ireturn, 1)) (hc : cells ≤ R.cells) (hs : slots ≤ R.slots) (hq : Q (some (.int z')) h) : Gl p.tables e below (PN s Z below hb ws R Q) T m pc L (.int z :: S) := by
  subst hz
  exact o_leaveN (y0 := []) W hlk (fun q => by rw [hret] at q; cases q) hq hc hs fun fs hr => retN W.1 W.2.1 hret ht hd hr
theorem o_retA (W : Wk p l e R s m args below meth c own Z hb ws I T h locs cells slots) (hlk : meth.locks = false) {Q : Option Value → Heap → Prop} {t : FieldType} {v : Value} (hret : meth.sig.returnType = some t) (ht : t.isReference = true) (hv : v.isRef = true) (hd : decode c.code pc = .ok (.areturn, 1)) (hc : cells ≤ R.cells) (hs : slots ≤ R.slots) (hq : Q (some v) h) : Gl p.tables e below (PN s Z below hb ws R Q) T m pc L (v :: S) :=
  o_leaveN (y0 := []) W hlk (fun q => by rw [hret] at q; cases q) hq hc hs fun fs hr => retOut W.1 W.2.1 hret (by cases v <;> first | (cases hv; done) | (cases t <;> first | (cases ht; done) | rfl)) (Or.inr (Or.inr (Or.inr (Or.inr ⟨rfl, ht, hv⟩)))) hd hr
theorem o_ret0 (W : Wk p l e R s m args below meth c own Z hb ws I T h locs cells slots) (hlk : meth.locks = false) {Q : Option Value → Heap → Prop} (hret : meth.sig.returnType = none) (hd : decode c.code pc = .ok (.return_, 1)) (hc : cells ≤ R.cells) (hs : slots ≤ R.slots) (hq : Q none h) : Gl p.tables e below (PN s Z below hb ws R Q) T m pc L [] :=
  o_leaveN (y0 := []) W hlk (fun _ => rfl) hq hc hs fun fs hr => W.1.returnOut W.2.1 hret hd hr
end OwnPre

section OwnWide
def IW (s : State) (Z : State) (EL : List (String × Nat)) (V : Vm) (h : Heap) : Prop := (∃ k0, s.Since V k0 ∧ k0 ≤ h.size) ∧ CHv Z EL V h ∧ CHr Z EL s.vm s.heap V h
variable {p : Program} {l : Launch} {e : Env} {R : Room} {s : State} {m : MethodId} {args : Array Value} {below : List Frame} {meth : Method} {c : Code} {T : State} {locs : List Loc} {cells slots cells' slots' : Nat} {Z : State} {a0 : Array Value} {h h' hb : Heap} {ws : List Addr} {own : String} {P : State → Outcome → Prop} {pc pc' : Nat} {L L' : Array Slot} {S : List Value} {EL : List (String × Nat)} {V : Vm}
theorem IW.ext (E : Ext h h') (i : IW s Z EL V h) : IW s Z EL V h' := by
  obtain ⟨⟨k0, h1, h2⟩, h3, h4⟩ := i
  exact ⟨⟨k0, h1, Nat.le_trans h2 E.1⟩, h3.ext E, h4.trans (CHr.ext E h3)⟩
theorem IW.wr {a : Addr} {sl : Nat} {v : Value} (W : Wr h h' a sl v) (S : Safe Z EL V h a) (i : IW s Z EL V h) : IW s Z EL V h' := by
  obtain ⟨⟨k0, h1, h2⟩, h3, h4⟩ := i
  exact ⟨⟨k0, h1, by rw [W.size]; exact h2⟩, h3.wr W S, h4.trans (CHr.wr W S h3)⟩
theorem IW.keep {wy : List Addr} (K : Keep h h' wy) (hs : ∀ x ∈ wy, Safe Z EL V h x) (i : IW s Z EL V h) : IW s Z EL V h' := by
  obtain ⟨⟨k0, h1, h2⟩, h3, h4⟩ := i
  exact ⟨⟨k0, h1, Nat.le_trans h2 K.1⟩, h3.keep K hs, h4.trans (CHr.keep K hs h3)⟩
theorem own_safeS {vm : Vm} {x : Addr} (hal : Z.vm.Alike vm) (E : Exa Z h x "java/lang/String") (F : Fld Z h x "java/lang/String" "value" "[B" .null) : Safe Z EL vm h x := fun B => by
  obtain ⟨pp, -, u, a, -, q, -, G, rfl | rfl⟩ := B
  · obtain ⟨cS, ⟨⟨g1, -, -, ⟨c1, k1, i1, f1, -⟩, -, -, -, v1, -⟩, -⟩, -⟩ := G
    obtain ⟨cell, cf, k, i, f, h1, h2, h3, h4, h5, h6, h7⟩ := F
    cases h1.symm.trans g1
    obtain ⟨k3, e3, -⟩ := State.fieldFound?_setVm (s := Z) hal h2
    have e4 := (show (Wst Z vm h).fieldFound? _ _ _ = _ from e3).symm.trans f1
    simp only [Option.some.injEq, Prod.mk.injEq] at e4
    rw [e4.2.2.2] at h7
    rw [h7] at v1
    simp at v1
  · have hA : (Wst Z vm h).isArrayOf q.SA .byte := by
      obtain ⟨cS, ⟨⟨-, -, -, -, -, -, -, -, -, -, g11, -⟩, -⟩, -⟩ := G
      exact g11
    have hc := G.hd
    obtain ⟨cell, k, h1, h2, h3, -, -⟩ := E
    cases h1.symm.trans hc
    obtain ⟨cS, -, -, hB, -⟩ := G
    have hB' : vm.findClass "[B" = some q.SA.cls := hB
    rw [hal.findClass] at hB'
    obtain ⟨ka, a1, a2⟩ := Vm.findClass_spec hB'
    obtain ⟨kb, b1, b2⟩ := Vm.findClass_spec h2
    cases a1.symm.trans b1
    rw [a2] at b2
    exact absurd b2 (by decide)
def ELn (Z : State) (a0 : Array Value) (EL : List (String × Nat)) (n : Nat) : Prop := ∀ p ∈ EL, ∃ text : String, (Cond.stringLink p.1 p.2 text).before a0 Z = true ∧ (∀ c ∈ text.toList, c.toNat < 256) ∧ text.toList.length ≠ n
theorem ELn.nil {n : Nat} : ELn Z a0 [] n := fun _ hp => by cases hp
theorem ELn.cons {n index : Nat} {text : String} (w : (Cond.stringLink own index text).before a0 Z = true) (ht : ∀ c ∈ text.toList, c.toNat < 256) (hn : text.toList.length ≠ n) (E : ELn Z a0 EL n) : ELn Z a0 ((own, index) :: EL) n := fun p hp => by
  rcases List.mem_cons.mp hp with rfl | hp
  · exact ⟨text, w, ht, hn⟩
  · exact E p hp
theorem own_safeB {vm : Vm} {x : Addr} {k : ClassId} {z : Int32} {vs : List Value} {dv : Value} {n : Nat} (hW : Z.Warmed39 vm) (hn : z.toNatClampNeg = n) (N : ELn Z a0 EL n) (F : Arv Z h x k .byte z vs dv) : Safe Z EL vm h x := fun B => by
  have hal : Z.vm.Alike vm := hW.alike
  obtain ⟨cl, ⟨A1, ⟨-, kA, hkA, compA, hkindA⟩, -⟩, -, hsz, -⟩ := F
  obtain ⟨kA', hkA', ekA⟩ := hal.2.2 _ _ hkA
  obtain ⟨pp, hp, u, a, hb, q, -, G, rfl | rfl⟩ := B
  · cases (show h[q.sa]? = some q.sC from G.ha).symm.trans A1
    obtain ⟨cS, ⟨-, -, e⟩, ⟨kS, g1, g2, -⟩, -⟩ := G
    subst e
    cases (show vm.classes[q.sC.cls]? = some kS from g1).symm.trans hkA'
    rw [ekA] at g2
    have := hkindA.symm.trans g2
    cases this
  · cases (show h[q.sd]? = some q.SA from G.hd).symm.trans A1
    obtain ⟨cS, -, -, -, hbyt⟩ := G
    obtain ⟨text, w, ht, hne⟩ := N pp hp
    have w2 : (Cond.stringLink pp.1 pp.2 text).before a0 (Wst Z vm h) = true := mvS (s := { Z with heap := h }) hW w
    obtain ⟨c1, k1, cf, i, f1, f2, f3, f4, f5, -⟩ := hb
    obtain ⟨k0', cf', i', units, hkx, hcf, hpl, hu, -, htext, -⟩ := Cond.stringLink_spec (s := Wst Z vm h) f1 w2
    have hkx : vm.classes[c1]? = some k0' := hkx
    cases f2.symm.trans hkx
    cases f3.symm.trans hcf
    cases f4.symm.trans hpl
    cases f5.symm.trans hu
    rw [hbyt, Jvm.Free.SBG.stringBytes_lat (Jvm.ClassFile.lat_of_text htext ht), Array.size_map] at hsz
    have el := congrArg List.length (Jvm.ClassFile.units_of_text htext ht)
    simp only [Array.length_toList, List.length_map] at el
    omega
theorem o_ldcR (W : Wk p l e R (s.setVm V) m args below meth c own Z hb ws (IW s Z EL V) T h locs cells slots) {text : String} {index : Nat} (w : (Cond.stringLink own index text).before a0 Z = true) (wS : ∀ a ∈ Bundle.stringAtoms, a.before a0 Z = true) (hEL : EW Z a0 EL) (hmem : (own, index) ∈ EL) (hd : decode c.code pc = .ok (.ldc index, 2)) (hp : pc + 2 = pc') {n : Nat} (hn : 4 * text.toList.length ≤ n) (hbig : n ≤ 536870912)
    (hc' : cells + 2 = cells') (hs' : slots + (n + 4) = slots') (hc : cells' ≤ R.cells) (hs : slots' ≤ R.slots) {vs : List Value} {z : Int32} (ht : (∀ c ∈ text.toList, c.toNat < 256) ∧ text.toList.map (fun c => Value.int (Jvm.Lit.byteI c.toNat.toUInt16)) = vs) (hz : ¬ z < 0) (hl : z.toNatClampNeg = vs.length)
    (K : ∀ a T' h' V' b k, Wk p l e R (s.setVm V') m args below meth c own Z hb ws (IW s Z EL V') T' h' locs cells' slots' → Ext h h' → CHr Z EL V h V' h' → Exa Z h' a "java/lang/String" → Fld Z h' a "java/lang/String" "coder" "B" (.int 0) → Fld Z h' a "java/lang/String" "value" "[B" (.ref b) → Arv Z h' b k .byte z vs (.int 0) → (∀ x, Safe Z EL V' h' x → x ≠ a ∧ x ≠ b) → Gl p.tables e below P T' m pc' L (.ref a :: S)) : Gl p.tables e below P T m pc L S := by
  subst hp hc' hs'
  obtain ⟨X, hx, eT, hZ, ho, o, fr, kp, ⟨k0, i1, i2⟩, i3, i4⟩ := W
  obtain ⟨a, T', h', k1, b, k, X', e', E, hS, hk, hW, hf, A1, A2, A3, A4, -, -, hC, -, hne, st⟩ := ldcCH X hx hZ ho w wS eT i1 i2 hEL hmem i3 ht hz hl (g := mkF m pc L S) rfl hd hn hbig hc hs
  exact Gl.st st (K a T' h' T'.vm b k ⟨X', hx, e', hW, hf, o.ext E, fr, kp.ext E, ⟨k1, hS, hk⟩, hC.1, i4.trans hC⟩ E hC A1 A2 A3 A4 hne)
def CtrW (l : Launch) (Z : State) (EL : List (String × Nat)) (y : MethodName) (bytes : ByteArray) (maxL : Nat) (ret : Option FieldType) (xs : List Jvm.Cond) (rm : Room) (as' : Array Value) (h0 : Heap) (wy : List Addr) (Q : Option Value → Heap → Prop) : Prop :=
  MetFree l y (head1 (Jvm.Cond.code y bytes maxL ret :: xs) rm) (fun a U => a = as' ∧ Z.Warmed39 U.vm ∧ U.heap = h0 ∧ CHv Z EL U.vm h0) (fun _ _ _ _ _ => True) (fun _ U o U' => ∃ v L, o = .returned v ∧ (Fr Z.heap.size L ∧ Keep h0 U'.heap wy ∧ Q v U'.heap) ∧ CHr Z EL U.vm U.heap U'.vm U'.heap ∧ ReturnedEndW U o U' L rm.cells rm.slots)
def PW (s : State) (Z : State) (EL : List (String × Nat)) (below : List Frame) (h0 : Heap) (wy : List Addr) (rm : Room) (Q : Option Value → Heap → Prop) (s₂ : State) (o : Outcome) : Prop := s₂.status = .running ∧ Ended s₂ below o ∧ ∃ v L, o = .returned v ∧ (Fr Z.heap.size L ∧ Keep h0 s₂.heap wy ∧ Q v s₂.heap) ∧ CHr Z EL s.vm s.heap s₂.vm s₂.heap ∧ ReturnedEndW s o s₂ L rm.cells rm.slots
theorem CtrW.intro {y : MethodName} {bytes : ByteArray} {maxL : Nat} {ret : Option FieldType} {xs : List Jvm.Cond} {rm : Room} {as' : Array Value} {h0 : Heap} {wy : List Addr} {Q : Option Value → Heap → Prop} {L0 : Array Slot} (hx : plainFor y = true) (O : Old Z Z.heap.size h0) (hef : ∀ m, entryFrame m as' maxL = mkF m 0 L0 [])
    (body : ∀ (p : Program) (e : Env) (s : State) (m : MethodId) (below : List Frame) (meth : Method) (c : Code) (T : State) (V : Vm), c.code = bytes → c.maxLocals = maxL → meth.sig.returnType = ret → meth.locks = false → meth.name = y.name → Wk p l e rm (s.setVm V) m as' below meth c y.cls Z h0 wy (IW s Z EL V) T h0 [] 0 0 → Gl p.tables e below (PW s Z EL below h0 wy rm Q) T m 0 L0 []) :
    CtrW l Z EL y bytes maxL ret xs rm as' h0 wy Q := by
  refine MetFree.of_bodySF hx hisR ?_
  intro p e s m args below meth c s₁ Bd hml hP hK
  obtain ⟨rfl, hZ, hh, hH⟩ := hP
  have e0 : s₁.heap = h0 := by rw [← hh, Bd.state]; rfl
  have hr : CHr Z EL s.vm s.heap s.vm h0 := by rw [hh]; exact CHr.refl hH
  have X : Stand p l e rm (s.setVm s.vm) m args below meth c s₁ [] 0 0 := Stand.of_body Bd
  obtain ⟨s2, o, g1, g2, g3, g4⟩ := body p e s m below meth c s₁ s.vm Bd.bytes hml Bd.returns Bd.notSynchronized (name_of_methodNamed Bd.named Bd.method).1 ⟨X, Bd.exec, e0, hZ, findClass_of_methodNamed Bd.named, O, Fr.nil _, Keep.refl _ _, ⟨0, (State.WarmedH.refl s).since _, Nat.zero_le _⟩, hH, hr⟩
  exact ⟨s2, o, castTop (hef m) g1, g2, g3, g4⟩
abbrev BackSQ (l : Launch) (R : Room) (p : Program) (e : Env) (below : List Frame) (s : State) (args : Array Value) (y : MethodName) (len Wd : Nat) (as' : Array Value) (h : Heap) (kc ks : Nat) (Q : Option Value → Heap → List Loc → Prop) (Z : State) (EL : List (String × Nat)) (V : Vm) : Prop :=
  BackS l R p e below s args y len Wd (fun A a => a = as' ∧ A.U.heap = h ∧ A.cells + kc ≤ R.cells ∧ A.slots + ks ≤ R.slots) (fun A _ v B => ∃ L, Q v B.U.heap L ∧ B.locs = A.locs ++ L ∧ B.cells = A.cells + kc ∧ B.slots = A.slots + ks ∧ CHr Z EL V h B.U.vm B.U.heap)
theorem CtrW.back {y : MethodName} {bytes : ByteArray} {maxL : Nat} {ret : Option FieldType} {rm : Room} {as' : Array Value} {wy : List Addr} {Q : Option Value → Heap → Prop} {len Wd : Nat} (W : Wk p l e R (s.setVm V) m args below meth c own Z hb ws (IW s Z EL V) T h locs cells slots) (C : CtrW l Z EL y bytes maxL ret [] rm as' h wy Q) (wc : (Cond.code y bytes maxL ret).before a0 Z = true) (wz : (Cond.initialized y.cls).before a0 Z = true)
    (hf : rm.frames + 1 ≤ R.frames) (hl : Wd + (maxL + 11) + rm.locals ≤ R.locals) (hEL : EW Z a0 EL) : BackSQ l R p e below (s.setVm V) args y len Wd as' h rm.cells rm.slots (fun v hh L => Fr Z.heap.size L ∧ Keep h hh wy ∧ Q v hh) Z EL V :=
  backOfSH (s := s) (Q := fun v hh L => Fr Z.heap.size L ∧ Keep h hh wy ∧ Q v hh) C W.2.2.2.1 wc wz hf hl hEL W.inv.2.1
theorem o_afterW (W : Wk p l e R (s.setVm V) m args below meth c own Z hb ws (IW s Z EL V) T h locs cells slots) {B : Pt} {v : Option Value} {kc ks : Nat} {Q : Option Value → Heap → List Loc → Prop} {wy : List Addr} (X' : Stand p l e R ((s.setVm V).setVm B.U.vm) m args below meth c B.U B.locs B.cells B.slots) (hS : (s.setVm V).Since B.U.vm B.U.heap.size) (hgr : T.heap.size ≤ B.U.heap.size) (hpost : ∃ L, Q v B.U.heap L ∧ B.locs = locs ++ L ∧ B.cells = cells + kc ∧ B.slots = slots + ks ∧ CHr Z EL V h B.U.vm B.U.heap)
    (hq : ∀ v hh L, Q v hh L → Fr Z.heap.size L ∧ Keep h hh wy) (hg : ∀ x ∈ wy, Z.heap.size ≤ x ∧ (x ∈ ws ∨ hb.size ≤ x)) :
    ∃ L, Q v B.U.heap L ∧ Keep h B.U.heap wy ∧ CHr Z EL V h B.U.vm B.U.heap ∧ Wk p l e R (s.setVm B.U.vm) m args below meth c own Z hb ws (IW s Z EL B.U.vm) B.U B.U.heap (locs ++ L) (cells + kc) (slots + ks) := by
  obtain ⟨X, hx, eT, hZ, ho, o, fr, kp, ⟨k0, i1, i2⟩, i3, i4⟩ := W
  obtain ⟨⟨U, lo, kc', ks'⟩, rfl⟩ : ∃ B', B' = B := ⟨_, rfl⟩
  obtain ⟨L', q, e1, e2, e3, hC⟩ := hpost
  have e1 : lo = locs ++ L' := e1
  have e2 : kc' = cells + kc := e2
  have e3 : ks' = slots + ks := e3
  subst e1 e2 e3
  obtain ⟨f, k⟩ := hq _ _ _ q
  obtain ⟨Y, hS2, hZ2, ho2⟩ := rebS (n1 := T.heap.size) i1 (by rw [eT]; exact i2) X' hS hgr hZ ho
  exact ⟨L', q, k, hC, Y, hx, rfl, hZ2, ho2, o.keep k (fun x hx => (hg x hx).1), fr.app f, kp.trans k (fun x hx => (hg x hx).2), ⟨_, hS2, Nat.le_refl _⟩, hC.1, i4.trans hC⟩
theorem o_specialW (W : Wk p l e R (s.setVm V) m args below meth c own Z hb ws (IW s Z EL V) T h locs cells slots) {index : Nat} {y : MethodName} {bytes : ByteArray} {maxL : Nat} (hy1 : y.name = "<init>") (w1 : (Cond.methodLink own index y).before a0 Z = true) (w2 : (Cond.instanceMethod y).before a0 Z = true) (w4 : (Cond.code y bytes maxL none).before a0 Z = true)
    (hy : y.cls ≠ "java/lang/invoke/MethodHandle" ∧ y.cls ≠ "java/lang/invoke/VarHandle") {Wd kc ks : Nat} {Q : Option Value → Heap → List Loc → Prop} {a : Addr} {argsL : List Value} (B : BackSQ l R p e below (s.setVm V) args y 3 Wd (.ref a :: argsL).toArray h kc ks Q Z EL V) (hml : L.size = c.maxLocals)
    (hlen : ∀ sig, parseMethodDescriptor y.desc = some sig → argsL.length = sig.parameters.length) {S0 : List Value} (hS : S0 = argsL.reverse ++ .ref a :: S) (hW : 2 * 0 + (S.map fun v => v.category).sum ≤ Wd) (hd : decode c.code pc = .ok (.invokespecial index, 3)) (hp : pc + 3 = pc')
    (hc' : cells + kc = cells') (hs' : slots + ks = slots') (hc : cells' ≤ R.cells) (hs : slots' ≤ R.slots) {wy : List Addr} (hq : ∀ v hh L, Q v hh L → Fr Z.heap.size L ∧ Keep h hh wy) (hg : ∀ x ∈ wy, Z.heap.size ≤ x ∧ (x ∈ ws ∨ hb.size ≤ x))
    (K : ∀ v T' h' V' Lc, Wk p l e R (s.setVm V') m args below meth c own Z hb ws (IW s Z EL V') T' h' (locs ++ Lc) cells' slots' → Keep h h' wy → CHr Z EL V h V' h' → Q v h' Lc → Gl p.tables e below P T' m pc' L (v.toList ++ S)) : Gl p.tables e below P T m pc L S0 := by
  subst hp hc' hs' hS
  obtain ⟨v, vm₁, B', -, X', hS, hgr, hpost, st⟩ := W.1.specialBackS W.2.1 hy1 W.2.2.2.2.1 (mvT W.2.2.2.1 w1) (mvT W.2.2.2.1 w2) (mvT W.2.2.2.1 w4) hy B (g := mkF m pc L (argsL.reverse ++ .ref a :: S)) rfl hml (Steps.refl _) hlen rfl hW hd (fun _ _ => ⟨rfl, W.2.2.1, hc, hs⟩)
  obtain ⟨Lc, q, k, hC, W'⟩ := o_afterW W X' hS hgr hpost hq hg
  exact Gl.tr st (K v _ _ _ Lc W' k hC q)
theorem o_virtualW (W : Wk p l e R (s.setVm V) m args below meth c own Z hb ws (IW s Z EL V) T h locs cells slots) {index : Nat} {C : String} {y z : MethodName} (w1 : (Cond.methodLink own index y).before a0 Z = true) (w2 : (Cond.declares y).before a0 Z = true) (hnf : NotFace (s.setVm V) y) (w3 : (Cond.selects C y z).before a0 Z = true) (w4 : (Cond.instanceMethod z).before a0 Z = true)
    (hy : y.cls ≠ "java/lang/invoke/MethodHandle" ∧ y.cls ≠ "java/lang/invoke/VarHandle") {Wd kc ks : Nat} {Q : Option Value → Heap → List Loc → Prop} {a : Addr} (E : Exa Z h a C) {argsL : List Value} (B : BackSQ l R p e below (s.setVm V) args z 3 Wd (.ref a :: argsL).toArray h kc ks Q Z EL V) (hml : L.size = c.maxLocals)
    (hlen : ∀ sig, parseMethodDescriptor y.desc = some sig → argsL.length = sig.parameters.length) {S0 : List Value} (hS : S0 = argsL.reverse ++ .ref a :: S) (hW : 2 * 0 + (S.map fun v => v.category).sum ≤ Wd) (hd : decode c.code pc = .ok (.invokevirtual index, 3)) (hp : pc + 3 = pc')
    (hc' : cells + kc = cells') (hs' : slots + ks = slots') (hc : cells' ≤ R.cells) (hs : slots' ≤ R.slots) {wy : List Addr} (hq : ∀ v hh L, Q v hh L → Fr Z.heap.size L ∧ Keep h hh wy) (hg : ∀ x ∈ wy, Z.heap.size ≤ x ∧ (x ∈ ws ∨ hb.size ≤ x))
    (K : ∀ v T' h' V' Lc, Wk p l e R (s.setVm V') m args below meth c own Z hb ws (IW s Z EL V') T' h' (locs ++ Lc) cells' slots' → Keep h h' wy → CHr Z EL V h V' h' → Q v h' Lc → Gl p.tables e below P T' m pc' L (v.toList ++ S)) : Gl p.tables e below P T m pc L S0 := by
  subst hp hc' hs' hS
  obtain ⟨cB, kB, q1, q2, q3⟩ := isOf W.2.2.2.1 W.2.2.1 E
  obtain ⟨v, vm₁, B', -, X', hS, hgr, hpost, st⟩ := W.1.virtualBackS W.2.1 W.2.2.2.2.1 (mvT W.2.2.2.1 w1) (mvT W.2.2.2.1 w2) hnf (mvT W.2.2.2.1 w3) (mvT W.2.2.2.1 w4) hy B q1 q3 (g := mkF m pc L (argsL.reverse ++ .ref a :: S)) rfl hml (Steps.refl _) hlen rfl hW hd (fun _ _ => ⟨rfl, W.2.2.1, hc, hs⟩)
  obtain ⟨Lc, q, k, hC, W'⟩ := o_afterW W X' hS hgr hpost hq hg
  exact Gl.tr st (K v _ _ _ Lc W' k hC q)
theorem o_leaveWW {Q : Option Value → Heap → Prop} (W : Wk p l e R (s.setVm V) m args below meth c own Z hb ws (IW s Z EL V) T h locs cells slots) (hEL : EW Z a0 EL) (hlk : meth.locks = false) {v : Option Value} (hv : meth.sig.returnType = none → v = none) (hq : Q v h) (hc : cells ≤ R.cells) (hs : slots ≤ R.slots) (st : ∀ fs, (∀ (f : JFrame) (acts : List Action), f.method = m → f.locked = none → f.entered = [] → (doReturn e (T.setTop f) acts v).1 = T.setFrames fs) → Steps p.tables e below (T.setTop (mkF m pc L S)) (T.setFrames fs)) :
    Gl p.tables e below (PW s Z EL below hb ws R Q) T m pc L S := by
  obtain ⟨X, hx, eT, hZ, ho, o, fr, kp, ⟨k0, i1, i2⟩, i3, i4⟩ := W
  obtain ⟨fs, hr, hrun, hended, a1, a2, a3, a4⟩ := X.leaveW i1 (by rw [eT]; exact i2) (v := v) hv
  have eh : (T.setFrames fs).heap = h := eT
  have hA := CHv.at X hZ hEL i3
  exact ⟨_, _, st fs hr, hrun, hended, v, locs, rfl, ⟨fr, by rw [eh]; exact kp, by rw [eh]; exact hq⟩, by rw [eh]; exact i4.trans hA, a1, a2, a3, a4.mono hc hs⟩
theorem o_retNW (W : Wk p l e R (s.setVm V) m args below meth c own Z hb ws (IW s Z EL V) T h locs cells slots) (hEL : EW Z a0 EL) (hlk : meth.locks = false) {Q : Option Value → Heap → Prop} {z z' : Int32} {t : FieldType} (hret : meth.sig.returnType = some t) (ht : t = .boolean ∨ t = .byte ∨ t = .char ∨ t = .short) (hz : nar t z = z') (hd : decode c.code pc = .ok (.ireturn, 1)) (hc : cells ≤ R.cells) (hs : slots ≤ R.slots) (hq : Q (some (.int z')) h) : Gl p.tables e below (PW s Z EL below hb ws R Q) T m pc L (.int z :: S) := by
  subst hz
  exact o_leaveWW W hEL hlk (fun q => by rw [hret] at q; cases q) hq hc hs fun fs hr => retN W.1 W.2.1 hret ht hd hr
theorem o_retAW (W : Wk p l e R (s.setVm V) m args below meth c own Z hb ws (IW s Z EL V) T h locs cells slots) (hEL : EW Z a0 EL) (hlk : meth.locks = false) {Q : Option Value → Heap → Prop} {t : FieldType} {v : Value} (hret : meth.sig.returnType = some t) (ht : t.isReference = true) (hv : v.isRef = true) (hd : decode c.code pc = .ok (.areturn, 1)) (hc : cells ≤ R.cells) (hs : slots ≤ R.slots) (hq : Q (some v) h) : Gl p.tables e below (PW s Z EL below hb ws R Q) T m pc L (v :: S) :=
  o_leaveWW W hEL hlk (fun q => by rw [hret] at q; cases q) hq hc hs fun fs hr => retOut W.1 W.2.1 hret (by cases v <;> first | (cases hv; done) | (cases t <;> first | (cases ht; done) | rfl)) (Or.inr (Or.inr (Or.inr (Or.inr ⟨rfl, ht, hv⟩)))) hd hr
theorem o_ret0W (W : Wk p l e R (s.setVm V) m args below meth c own Z hb ws (IW s Z EL V) T h locs cells slots) (hEL : EW Z a0 EL) (hlk : meth.locks = false) {Q : Option Value → Heap → Prop} (hret : meth.sig.returnType = none) (hd : decode c.code pc = .ok (.return_, 1)) (hc : cells ≤ R.cells) (hs : slots ≤ R.slots) (hq : Q none h) : Gl p.tables e below (PW s Z EL below hb ws R Q) T m pc L [] :=
  o_leaveWW W hEL hlk (fun _ => rfl) hq hc hs fun fs hr => W.1.returnOut W.2.1 hret hd hr
end OwnWide
section OwnMore
variable {p : Program} {l : Launch} {e : Env} {R : Room} {s : State} {m : MethodId} {args : Array Value} {below : List Frame} {meth : Method} {c : Code} {T : State} {locs : List Loc} {cells slots cells' slots' : Nat} {Z : State} {a0 : Array Value} {h h' hb : Heap} {ws : List Addr} {own : String} {I : Heap → Prop} {P : State → Outcome → Prop} {pc pc' : Nat} {L L' : Array Slot} {S : List Value}
theorem own_selSelf {y : MethodName} {C : String} {args : Array Value} (hy : y.cls ≠ "java/lang/invoke/MethodHandle" ∧ y.cls ≠ "java/lang/invoke/VarHandle") (hs : (Cond.selects C y y).before args s = true) (hi : (Cond.instanceMethod y).before args s = true) (hp : s.PrivateAt y) : (Cond.selects y.cls y y).before args s = true := by
  obtain ⟨c0, r, m0, h1, h2, h3, h4, k, h5, h6⟩ := Cond.selects_spec hs
  obtain ⟨mk, methM, hnamed, hmethM, -, -⟩ := Cond.instanceMethod_spec hi
  cases h3.symm.trans hnamed
  have hpr := hp _ _ hnamed hmethM
  have hc := findClass_of_methodNamed hnamed
  cases (State.methodFound?_of_named hnamed hy).symm.trans h2
  simp [Cond.before, Cond.holds, Cond.value, hc, h2, hnamed, selectMethod_private hmethM hpr, h5, h6]
theorem own_sameM {y : MethodName} (hy : y.cls ≠ "java/lang/invoke/MethodHandle" ∧ y.cls ≠ "java/lang/invoke/VarHandle") (w : (Cond.instanceMethod y).before a0 Z = true) {S0 : String} (ws : (Cond.superclass y.cls S0).before a0 Z = true) : (Cond.sameMethod y.cls y.cls y.name y.desc).before a0 Z = true := by
  obtain ⟨mk, methM, hnamed, hmethM, -, -⟩ := Cond.instanceMethod_spec w
  have hc := findClass_of_methodNamed hnamed
  have h2 := State.methodFound?_of_named hnamed hy
  obtain ⟨q, k, kp, -, q2, -, -, -, -, q5⟩ := Cond.superclass_spec hc ws
  simp [Cond.before, Cond.holds, Cond.value, hc, h2, hnamed, q2, q5]
theorem own_NSr {O K : String} {n : Nat} (w : (Cond.noSuperclass O).before a0 Z = true) (wk : (Cond.instantiable K n).before a0 Z = true) (hn : O ≠ K) : NS Z O K := by
  obtain ⟨c, k, h1, h2, h3, -, -⟩ := Cond.noSuperclass_spec w
  obtain ⟨t, k2, g1, -⟩ := Cond.instantiable_spec wk
  have ne := ids_ne h1 g1 hn
  refine ⟨c, t, h1, g1, fun fuel => ?_⟩
  cases fuel with
  | zero => rfl
  | succ f => simp [Vm.isSubclassAux, ne, h2, h3]
theorem own_NSno {C S0 K : String} {n : Nat} (w : (Cond.superclass C S0).before a0 Z = true) (wk : (Cond.instantiable K n).before a0 Z = true) (ns : NS Z C K) (hn : C ≠ K) : ∃ c t, Z.vm.findClass C = some c ∧ Z.vm.findClass K = some t ∧ Z.vm.assignable c t = false := by
  obtain ⟨c, t, h0, g0, n3⟩ := ns
  obtain ⟨p, k, kp, h1, h2, h3, h4, h5, -, h7⟩ := Cond.superclass_spec h0 w
  obtain ⟨t', k', g1, g2, g5, g6, -⟩ := Cond.instantiable_spec wk
  have g8 : k'.isInterface = false := (Bool.or_eq_false_iff.mp g6).1
  cases g0.symm.trans g1
  have ne := ids_ne h0 g0 hn
  refine ⟨c, t, h0, g0, ?_⟩
  show Z.vm.assignableAux (255 + 1) c t = false
  simp [Vm.assignableAux, ne, h2, g2, h5, g5, g8, Vm.isSubclass, n3]
theorem o_private (W : Wk p l e R s m args below meth c own Z hb ws I T h locs cells slots) {index : Nat} {y : MethodName} {bytes : ByteArray} {maxL : Nat} {ret : Option FieldType} {C K0 : String} (w1 : (Cond.methodLink own index y).before a0 Z = true) (w2 : (Cond.instanceMethod y).before a0 Z = true) (w3 : (Cond.selects C y y).before a0 Z = true) (w4 : (Cond.privateMethod y).before a0 Z = true) (w5 : (Cond.code y bytes maxL ret).before a0 Z = true)
    (hy : y.cls ≠ "java/lang/invoke/MethodHandle" ∧ y.cls ≠ "java/lang/invoke/VarHandle") {Wd kc ks : Nat} {Q : Option Value → Heap → List Loc → Prop} {a : Addr} (E : Exa Z h a K0) {argsL : List Value} (B : BackQ l R p e below s args y 3 Wd (.ref a :: argsL).toArray h kc ks Q) (hml : L.size = c.maxLocals)
    (hlen : ∀ sig, parseMethodDescriptor y.desc = some sig → argsL.length = sig.parameters.length) {S0 : List Value} (hS : S0 = argsL.reverse ++ .ref a :: S) (hW : 2 * 0 + (S.map fun v => v.category).sum ≤ Wd) (hd : decode c.code pc = .ok (.invokevirtual index, 3)) (hp : pc + 3 = pc')
    (hc' : cells + kc = cells') (hs' : slots + ks = slots') (hc : cells' ≤ R.cells) (hs : slots' ≤ R.slots) {wy : List Addr} (hq : ∀ v hh L, Q v hh L → Fr Z.heap.size L ∧ Keep h hh wy) (hg : ∀ x ∈ wy, Z.heap.size ≤ x ∧ (x ∈ ws ∨ hb.size ≤ x)) (hI : ∀ h', Keep h h' wy → I h')
    (K : ∀ v T' h' Lc, Wk p l e R s m args below meth c own Z hb ws I T' h' (locs ++ Lc) cells' slots' → Keep h h' wy → Q v h' Lc → Gl p.tables e below P T' m pc' L (v.toList ++ S)) : Gl p.tables e below P T m pc L S0 := by
  subst hp hc' hs' hS
  obtain ⟨cl, q1, q2⟩ := E.cell
  have hpv : s.PrivateAt y := Cond.privateMethod_at (mvP W.2.2.2.1 w4 (args := #[]))
  obtain ⟨v, vm₁, B', -, X', hpost, st⟩ := W.1.privateBack W.2.1 W.2.2.2.2.1 (mvT W.2.2.2.1 w1) (mvT W.2.2.2.1 w2) (own_selSelf hy (mvT W.2.2.2.1 w3) (mvT W.2.2.2.1 w2) hpv) hpv (mvT W.2.2.2.1 w5) hy B (g := mkF m pc L (argsL.reverse ++ .ref a :: S)) rfl hml (Steps.refl _) (by rw [W.2.2.1]; exact q1) q2 hlen rfl hW hd (fun _ _ => ⟨rfl, W.2.2.1, hc, hs⟩)
  obtain ⟨Lc, q, k, W'⟩ := o_after W X' hpost hq hg hI
  exact Gl.tr st (K v _ _ Lc W' k q)
theorem o_instN (W : Wk p l e R s m args below meth c own Z hb ws I T h locs cells slots) {C K0 : String} {index : Nat} (w : (Cond.classLink own index K0).before a0 Z = true) {a : Addr} (E : Exa Z h a C) (F : ∃ c t, Z.vm.findClass C = some c ∧ Z.vm.findClass K0 = some t ∧ Z.vm.assignable c t = false) (hd : decode c.code pc = .ok (.instanceof index, 3)) (hp : pc + 3 = pc')
    (K : ∀ T', Wk p l e R s m args below meth c own Z hb ws I T' h locs cells slots → Gl p.tables e below P T' m pc' L (.int 0 :: S)) : Gl p.tables e below P T m pc L (.ref a :: S) := by
  subst hp
  obtain ⟨X, hx, eT, hZ, ho, r⟩ := W
  obtain ⟨T', X', e', st⟩ := instNo X hx hZ ho w eT E F (g := mkF m pc L (.ref a :: S)) rfl rfl hd
  exact Gl.st st (K T' ⟨X', hx, e', hZ, ho, r⟩)
theorem o_copy (W : Wk p l e R s m args below meth c own Z hb ws I T h locs cells slots) {index : Nat} (w1 : (Cond.methodLink own index Jvm.Stand.acN).before a0 Z = true) (w2 : (Cond.native Jvm.Stand.acN).before a0 Z = true) (w3 : (Cond.static Jvm.Stand.acN).before a0 Z = true) (w4 : (Cond.initialized "java/lang/System").before a0 Z = true)
    {a b : Addr} {k k' : ClassId} {ty ty' : FieldType} {z z' sp dp nn : Int32} {vs vd us vd' : List Value} {dv dd : Value} (A : Arv Z h a k ty z vs dv) (B : Arv Z h b k' ty' z' vd dd) (hty : (ty = ty' ∧ refKind ty = false) ∨ (refKind ty = true ∧ refKind ty' = true ∧ StoL Z h b us))
    (h1 : ¬ sp < 0) (h2 : ¬ dp < 0) (h3 : ¬ nn < 0) (h4 : sp.toNatClampNeg + nn.toNatClampNeg ≤ z.toNatClampNeg) (h5 : dp.toNatClampNeg + nn.toNatClampNeg ≤ z'.toNatClampNeg)
    (hus : us = (List.range nn.toNatClampNeg).map fun i => vs.getD (sp.toNatClampNeg + i) dv) (hl : dp.toNatClampNeg + nn.toNatClampNeg ≤ vd.length) (hvd : vd.take dp.toNatClampNeg ++ us ++ vd.drop (dp.toNatClampNeg + nn.toNatClampNeg) = vd')
    (g1 : Z.heap.size ≤ b) (g2 : b ∈ ws ∨ hb.size ≤ b) (hI : ∀ h', Keep h h' [b] → I h') (hml : L.size = c.maxLocals) (hd : decode c.code pc = .ok (.invokestatic index, 3)) (hp : pc + 3 = pc') (hf : 1 ≤ R.frames) (Wd : Nat) (hW : 2 * 0 + (S.map fun v => v.category).sum ≤ Wd) (hlo : Wd + (nativeFrameWords "java/lang/System" "arraycopy" 5 + 11) ≤ R.locals)
    (K : ∀ T' h' locs', Wk p l e R s m args below meth c own Z hb ws I T' h' locs' cells slots → Keep h h' [b] → Arv Z h' b k' ty' z' vd' dd → Gl p.tables e below P T' m pc' L S) : Gl p.tables e below P T m pc L (.int nn :: .int dp :: .ref b :: .int sp :: .ref a :: S) := by
  subst hp hvd
  obtain ⟨X, hx, eT, hZ, ho, o, fr, kp, i⟩ := W
  obtain ⟨T', h', L1, X', e', F', K', V', st⟩ := cpA X hx hZ ho w1 w2 w3 w4 eT A B hty h1 h2 h3 h4 h5 hus hl fr g1 (g := mkF m pc L (.int nn :: .int dp :: .ref b :: .int sp :: .ref a :: S)) rfl hml rfl hd hf hW hlo
  exact Gl.st st (K T' h' _ ⟨X', hx, e', hZ, ho, o.keep K' (allS g1 all0), F', kp.trans K' (allS g2 all0), hI _ K'⟩ K' V')
theorem o_super (W : Wk p l e R s m args below meth c own Z hb ws I T h locs cells slots) {index : Nat} {y : MethodName} {bytes : ByteArray} {maxL : Nat} {ret : Option FieldType} {K0 : String} (hn : y.name ≠ "<init>") (w1 : (Cond.methodLink own index y).before a0 Z = true) (w2 : (Cond.instanceMethod y).before a0 Z = true) (w3 : (Cond.sameMethod y.cls y.cls y.name y.desc).before a0 Z = true) (w5 : (Cond.superclass own y.cls).before a0 Z = true) (w4 : (Cond.code y bytes maxL ret).before a0 Z = true)
    {Wd kc ks : Nat} {Q : Option Value → Heap → List Loc → Prop} {a : Addr} (F : Ins Z h a K0 true) {argsL : List Value} (B : BackQ l R p e below s args y 3 Wd (.ref a :: argsL).toArray h kc ks Q) (hml : L.size = c.maxLocals)
    (hlen : ∀ sig, parseMethodDescriptor y.desc = some sig → argsL.length = sig.parameters.length) {S0 : List Value} (hS : S0 = argsL.reverse ++ .ref a :: S) (hW : 2 * 0 + (S.map fun v => v.category).sum ≤ Wd) (hd : decode c.code pc = .ok (.invokespecial index, 3)) (hp : pc + 3 = pc')
    (hc' : cells + kc = cells') (hs' : slots + ks = slots') (hc : cells' ≤ R.cells) (hs : slots' ≤ R.slots) {wy : List Addr} (hq : ∀ v hh L, Q v hh L → Fr Z.heap.size L ∧ Keep h hh wy) (hg : ∀ x ∈ wy, Z.heap.size ≤ x ∧ (x ∈ ws ∨ hb.size ≤ x)) (hI : ∀ h', Keep h h' wy → I h')
    (K : ∀ v T' h' Lc, Wk p l e R s m args below meth c own Z hb ws I T' h' (locs ++ Lc) cells' slots' → Keep h h' wy → Q v h' Lc → Gl p.tables e below P T' m pc' L (v.toList ++ S)) : Gl p.tables e below P T m pc L S0 := by
  subst hp hc' hs' hS
  obtain ⟨v, vm₁, B', -, X', hpost, st⟩ := superBack W.1 W.2.1 W.2.2.2.1 W.2.2.2.2.1 w1 w3 w2 w5 hn B W.2.2.1 F (g := mkF m pc L (argsL.reverse ++ .ref a :: S)) rfl hml w4 hlen rfl hW hd (fun _ _ => ⟨rfl, W.2.2.1, hc, hs⟩)
  obtain ⟨Lc, q, k, W'⟩ := o_after W X' hpost hq hg hI
  exact Gl.tr st (K v _ _ Lc W' k q)
end OwnMore
set_option maxRecDepth 65536
set_option maxHeartbeats 40000000

def own_b (x : Int32) : Prop := ¬ x < 0 ∧ ¬ (255 : Int32) < x
def own_01 (x : Int32) : Prop := x = 0 ∨ x = 1
def own_ok (cs : List Int32) : Prop := (∀ c ∈ cs, own_b c) ∧ cs.length ≤ 4000
def own_eq (cs ds : List Int32) : Int32 := if cs = ds then 1 else 0
theorem own_eq01 (cs ds : List Int32) : own_01 (own_eq cs ds) := by unfold own_eq own_01; split <;> simp
theorem own_eq_symm (cs ds : List Int32) : own_eq cs ds = own_eq ds cs := by
  unfold own_eq
  by_cases h : cs = ds
  · rw [if_pos h, if_pos h.symm]
  · rw [if_neg h, if_neg (Ne.symm h)]
theorem own_lcs (x : Int64) : lcmpW x x = 0 := by simp [lcmpW]
theorem own_eqne (cs : List Int32) : ¬ own_eq cs cs = 0 := by unfold own_eq; rw [if_pos rfl]; decide
theorem own_ite0 {P : Prop} [Decidable P] (h : ¬ P) : (0 : Int32) = if P then 1 else 0 := (if_neg h).symm
theorem own_ite1 {P : Prop} [Decidable P] (h : P) : (1 : Int32) = if P then 1 else 0 := (if_pos h).symm
theorem own_b255 (x : Int32) : own_b (x &&& (255 : Int32)) := by
  have h := c_andS x 255
  have h1 : (x &&& (255 : Int32)).toBitVec.toNat ≤ 255 := by
    rw [Int32.toBitVec_and, BitVec.toNat_and]; exact Nat.and_le_right
  have h0 := h.2.2 (by decide)
  have e : (x &&& (255 : Int32)).toInt = (x &&& (255 : Int32)).toBitVec.toNat := by
    show (x &&& (255 : Int32)).toBitVec.toInt = _
    rw [BitVec.toInt_eq_toNat_cond, if_pos (by omega)]
  refine ⟨?_, ?_⟩
  · rw [Int32.lt_iff_toInt_lt]; show ¬ _ < (0 : Int); omega
  · rw [Int32.lt_iff_toInt_lt]; show ¬ (255 : Int) < _; omega
theorem own_bnat {x : Int32} (h : own_b x) : x.toBitVec.toNat ≤ 255 ∧ x.toInt = x.toBitVec.toNat := by
  obtain ⟨h0, h1⟩ := h
  rw [Int32.lt_iff_toInt_lt] at h0 h1
  have e0 : (0 : Int32).toInt = 0 := rfl
  have e1 : (255 : Int32).toInt = 255 := rfl
  have := x.toBitVec.isLt
  have e : x.toInt = x.toBitVec.toInt := rfl
  have e2 : x.toBitVec.toInt = if 2 * x.toBitVec.toNat < 2 ^ 32 then (x.toBitVec.toNat : Int) else (x.toBitVec.toNat : Int) - ((2 ^ 32 : Nat) : Int) := BitVec.toInt_eq_toNat_cond x.toBitVec
  split at e2 <;> omega
theorem own_i2c {x : Int32} (h : own_b x) : x.toUInt32.toUInt16.toUInt32.toInt32 = x := by
  obtain ⟨h1, -⟩ := own_bnat h
  apply Int32.toBitVec_inj.mp
  apply BitVec.eq_of_toNat_eq
  show (BitVec.setWidth 32 (BitVec.setWidth 16 x.toBitVec)).toNat = _
  simp only [BitVec.toNat_setWidth]
  omega
theorem own_fitC {x : Int32} (h : own_b x) : fits .char (.int x) = true := by
  have q := fits_nar_char x
  have e : nar .char x = x := own_i2c h
  rw [e] at q; exact q
theorem own_nar01 {x : Int32} (h : own_01 x) : x &&& 1 = x := by rcases h with rfl | rfl <;> decide
theorem own_fit01 {x : Int32} (h : own_01 x) : fits .boolean (.int x) = true := by rcases h with rfl | rfl <;> decide
theorem own_up {cs : List Int32} (h : own_ok cs) : ∀ c ∈ cs, ¬ c < 0 ∧ ¬ (65535 : Int32) < c := fun c hc => by
  obtain ⟨h0, h1⟩ := h.1 c hc
  refine ⟨h0, fun q => h1 ?_⟩
  rw [Int32.lt_iff_toInt_lt] at q ⊢
  have e0 : (65535 : Int32).toInt = 65535 := rfl
  have e1 : (255 : Int32).toInt = 255 := rfl
  omega
theorem own_eqv {v : Option Value} {cs ds : List Int32} (h : (v = some (.int 1) ∧ cs = ds) ∨ (v = some (.int 0) ∧ ¬ cs = ds)) : v = some (.int (own_eq cs ds)) := by
  unfold own_eq
  rcases h with ⟨rfl, h⟩ | ⟨rfl, h⟩
  · rw [if_pos h]
  · rw [if_neg h]
theorem own_b8 (x : Int32) : x.toInt8.toInt32.toInt8.toInt32 = x.toInt8.toInt32 := by simp
theorem own_fit8 (x : Int32) : fits .byte (.int x.toInt8.toInt32) = true := fits_nar_byte x
theorem own_shr8 {x : Int32} (h : own_b x) : (x.toUInt32 >>> ((8 : Int32) &&& 31).toUInt32).toInt32 = 0 := by
  obtain ⟨h1, -⟩ := own_bnat h
  apply Int32.toBitVec_inj.mp
  apply BitVec.eq_of_toNat_eq
  have e : ((8 : Int32) &&& 31).toUInt32 = 8 := by decide
  rw [e]
  show (x.toUInt32 >>> 8).toBitVec.toNat = 0
  rw [UInt32.toBitVec_shiftRight]
  show (x.toBitVec >>> (8 : UInt32).toBitVec.umod 32).toNat = 0
  rw [BitVec.ushiftRight_eq', BitVec.toNat_ushiftRight, show ((8 : UInt32).toBitVec.umod 32).toNat = 8 by decide, Nat.shiftRight_eq_div_pow]
  omega
theorem own_eqS {args : Array Value} {Z : State} {t : Term} {x : Int32} (h : t.eval args Z none [] Z = some (.int x)) : (Jvm.Cond.eq t (.int 0)).value args Z none Z [] = some (decide (x = 0)) := by
  simp [Cond.value, h, Term.eval]
theorem own_same {n : Nat} {L : List Loc} {h hh : Heap} (q : L = [] ∧ hh = h) : Fr n L ∧ Keep h hh [] := by
  obtain ⟨rfl, rfl⟩ := q
  exact ⟨Fr.nil _, Keep.refl _ _⟩
theorem own_hV {Z : State} {a0 : Array Value} (hw : ∀ d ∈ tables_1, d.before a0 Z = true) : ∀ d ∈ StrChars.Road.words, d.before a0 Z = true := fun d hd => hw d ((by decide +kernel : ∀ w ∈ StrChars.Road.words, w ∈ tables_1) d hd)
theorem own_wS {Z : State} {a0 : Array Value} (hw : ∀ d ∈ tables_1, d.before a0 Z = true) : ∀ a ∈ Bundle.stringAtoms, a.before a0 Z = true := fun d hd => hw d ((by decide +kernel : ∀ w ∈ Bundle.stringAtoms, w ∈ tables_1) d hd)
theorem own_EL {Z : State} {a0 : Array Value} (hw : ∀ d ∈ tables_1, d.before a0 Z = true) : EW Z a0 consts_1 := (EW.cons (hw _ (List.mem_of_getElem? (i := 58) rfl)) (by decide) (EW.cons (hw _ (List.mem_of_getElem? (i := 241) rfl)) (by decide) EW.nil))
theorem own_EL16 {Z : State} {a0 : Array Value} (hw : ∀ d ∈ tables_1, d.before a0 Z = true) : ELn Z a0 consts_1 16 := (ELn.cons (hw _ (List.mem_of_getElem? (i := 58) rfl)) (by decide) (by decide) (ELn.cons (hw _ (List.mem_of_getElem? (i := 241) rfl)) (by decide) (by decide) ELn.nil))

theorem w0 {Z : State} {a0 : Array Value} (hw : ∀ d ∈ tables_1, d.before a0 Z = true) : ((Jvm.Cond.classLink "com/example/colophon/colophon/api/HtmlAppendPinLaw" (7 : Nat) "com/example/colophon/colophon/api/Html")).before a0 Z = true := hw _ (List.mem_of_getElem? (i := 0) rfl)
theorem w1 {Z : State} {a0 : Array Value} (hw : ∀ d ∈ tables_1, d.before a0 Z = true) : ((Jvm.Cond.instantiable "com/example/colophon/colophon/api/Html" (1 : Nat))).before a0 Z = true := hw _ (List.mem_of_getElem? (i := 1) rfl)
theorem w2 {Z : State} {a0 : Array Value} (hw : ∀ d ∈ tables_1, d.before a0 Z = true) : ((Jvm.Cond.initialized "com/example/colophon/colophon/api/Html")).before a0 Z = true := hw _ (List.mem_of_getElem? (i := 2) rfl)
theorem w3 {Z : State} {a0 : Array Value} (hw : ∀ d ∈ tables_1, d.before a0 Z = true) : ((Jvm.Cond.methodLink "com/example/colophon/colophon/api/HtmlAppendPinLaw" (9 : Nat) ({ cls := "com/example/colophon/colophon/api/Html", name := "<init>", desc := "()V" } : Jvm.MethodName))).before a0 Z = true := hw _ (List.mem_of_getElem? (i := 3) rfl)
theorem w4 {Z : State} {a0 : Array Value} (hw : ∀ d ∈ tables_1, d.before a0 Z = true) : ((Jvm.Cond.instanceMethod ({ cls := "com/example/colophon/colophon/api/Html", name := "<init>", desc := "()V" } : Jvm.MethodName))).before a0 Z = true := hw _ (List.mem_of_getElem? (i := 4) rfl)
theorem w5 {Z : State} {a0 : Array Value} (hw : ∀ d ∈ tables_1, d.before a0 Z = true) : ((Jvm.Cond.code ({ cls := "com/example/colophon/colophon/api/Html", name := "<init>", desc := "()V" } : Jvm.MethodName) prog_5_method_1_code (1 : Nat) (Option.none : Option Jvm.ClassFile.FieldType))).before a0 Z = true := hw _ (List.mem_of_getElem? (i := 5) rfl)
theorem w6 {Z : State} {a0 : Array Value} (hw : ∀ d ∈ tables_1, d.before a0 Z = true) : ((Jvm.Cond.methodLink "com/example/colophon/colophon/api/Html" (1 : Nat) ({ cls := "java/lang/Object", name := "<init>", desc := "()V" } : Jvm.MethodName))).before a0 Z = true := hw _ (List.mem_of_getElem? (i := 6) rfl)
theorem w7 {Z : State} {a0 : Array Value} (hw : ∀ d ∈ tables_1, d.before a0 Z = true) : ((Jvm.Cond.instanceMethod ({ cls := "java/lang/Object", name := "<init>", desc := "()V" } : Jvm.MethodName))).before a0 Z = true := hw _ (List.mem_of_getElem? (i := 7) rfl)
theorem w8 {Z : State} {a0 : Array Value} (hw : ∀ d ∈ tables_1, d.before a0 Z = true) : ((Jvm.Cond.code ({ cls := "java/lang/Object", name := "<init>", desc := "()V" } : Jvm.MethodName) object_method_1_code (1 : Nat) (Option.none : Option Jvm.ClassFile.FieldType))).before a0 Z = true := hw _ (List.mem_of_getElem? (i := 8) rfl)
theorem w9 {Z : State} {a0 : Array Value} (hw : ∀ d ∈ tables_1, d.before a0 Z = true) : ((Jvm.Cond.classLink "com/example/colophon/colophon/api/Html" (7 : Nat) "java/lang/StringBuilder")).before a0 Z = true := hw _ (List.mem_of_getElem? (i := 9) rfl)
theorem w10 {Z : State} {a0 : Array Value} (hw : ∀ d ∈ tables_1, d.before a0 Z = true) : ((Jvm.Cond.instantiable "java/lang/StringBuilder" (4 : Nat))).before a0 Z = true := hw _ (List.mem_of_getElem? (i := 10) rfl)
theorem w11 {Z : State} {a0 : Array Value} (hw : ∀ d ∈ tables_1, d.before a0 Z = true) : ((Jvm.Cond.initialized "java/lang/StringBuilder")).before a0 Z = true := hw _ (List.mem_of_getElem? (i := 11) rfl)
theorem w12 {Z : State} {a0 : Array Value} (hw : ∀ d ∈ tables_1, d.before a0 Z = true) : ((Jvm.Cond.methodLink "com/example/colophon/colophon/api/Html" (9 : Nat) ({ cls := "java/lang/StringBuilder", name := "<init>", desc := "()V" } : Jvm.MethodName))).before a0 Z = true := hw _ (List.mem_of_getElem? (i := 12) rfl)
theorem w13 {Z : State} {a0 : Array Value} (hw : ∀ d ∈ tables_1, d.before a0 Z = true) : ((Jvm.Cond.instanceMethod ({ cls := "java/lang/StringBuilder", name := "<init>", desc := "()V" } : Jvm.MethodName))).before a0 Z = true := hw _ (List.mem_of_getElem? (i := 13) rfl)
theorem w14 {Z : State} {a0 : Array Value} (hw : ∀ d ∈ tables_1, d.before a0 Z = true) : ((Jvm.Cond.code ({ cls := "java/lang/StringBuilder", name := "<init>", desc := "()V" } : Jvm.MethodName) jdk_67_method_1_code (1 : Nat) (Option.none : Option Jvm.ClassFile.FieldType))).before a0 Z = true := hw _ (List.mem_of_getElem? (i := 14) rfl)
theorem w15 {Z : State} {a0 : Array Value} (hw : ∀ d ∈ tables_1, d.before a0 Z = true) : ((Jvm.Cond.methodLink "java/lang/StringBuilder" (1 : Nat) ({ cls := "java/lang/AbstractStringBuilder", name := "<init>", desc := "(I)V" } : Jvm.MethodName))).before a0 Z = true := hw _ (List.mem_of_getElem? (i := 15) rfl)
theorem w16 {Z : State} {a0 : Array Value} (hw : ∀ d ∈ tables_1, d.before a0 Z = true) : ((Jvm.Cond.instanceMethod ({ cls := "java/lang/AbstractStringBuilder", name := "<init>", desc := "(I)V" } : Jvm.MethodName))).before a0 Z = true := hw _ (List.mem_of_getElem? (i := 16) rfl)
theorem w18 {Z : State} {a0 : Array Value} (hw : ∀ d ∈ tables_1, d.before a0 Z = true) : ((Jvm.Cond.castable "java/lang/StringBuilder" "java/lang/AbstractStringBuilder")).before a0 Z = true := hw _ (List.mem_of_getElem? (i := 18) rfl)
theorem w19 {Z : State} {a0 : Array Value} (hw : ∀ d ∈ tables_1, d.before a0 Z = true) : ((Jvm.Cond.initialized "java/lang/AbstractStringBuilder")).before a0 Z = true := hw _ (List.mem_of_getElem? (i := 19) rfl)
theorem w20 {Z : State} {a0 : Array Value} (hw : ∀ d ∈ tables_1, d.before a0 Z = true) : ((Jvm.Cond.code ({ cls := "java/lang/AbstractStringBuilder", name := "<init>", desc := "(I)V" } : Jvm.MethodName) jdk_68_method_2_code (2 : Nat) (Option.none : Option Jvm.ClassFile.FieldType))).before a0 Z = true := hw _ (List.mem_of_getElem? (i := 20) rfl)
theorem w21 {Z : State} {a0 : Array Value} (hw : ∀ d ∈ tables_1, d.before a0 Z = true) : ((Jvm.Cond.methodLink "java/lang/AbstractStringBuilder" (3 : Nat) ({ cls := "java/lang/Object", name := "<init>", desc := "()V" } : Jvm.MethodName))).before a0 Z = true := hw _ (List.mem_of_getElem? (i := 21) rfl)
theorem w22 {Z : State} {a0 : Array Value} (hw : ∀ d ∈ tables_1, d.before a0 Z = true) : ((Jvm.Cond.fieldLink "java/lang/AbstractStringBuilder" (18 : Nat) "java/lang/String" "COMPACT_STRINGS" "Z")).before a0 Z = true := hw _ (List.mem_of_getElem? (i := 22) rfl)
theorem w23 {Z : State} {a0 : Array Value} (hw : ∀ d ∈ tables_1, d.before a0 Z = true) : ((Jvm.Cond.initialized "java/lang/String")).before a0 Z = true := hw _ (List.mem_of_getElem? (i := 23) rfl)
theorem w24 {Z : State} {a0 : Array Value} (hw : ∀ d ∈ tables_1, d.before a0 Z = true) : ((Jvm.Cond.arrayClass Jvm.ClassFile.FieldType.byte)).before a0 Z = true := hw _ (List.mem_of_getElem? (i := 24) rfl)
theorem w25 {Z : State} {a0 : Array Value} (hw : ∀ d ∈ tables_1, d.before a0 Z = true) : ((Jvm.Cond.fieldLink "java/lang/AbstractStringBuilder" (15 : Nat) "java/lang/AbstractStringBuilder" "value" "[B")).before a0 Z = true := hw _ (List.mem_of_getElem? (i := 25) rfl)
theorem w26 {Z : State} {a0 : Array Value} (hw : ∀ d ∈ tables_1, d.before a0 Z = true) : ((Jvm.Cond.lays "java/lang/StringBuilder" "java/lang/AbstractStringBuilder" "value" "[B")).before a0 Z = true := hw _ (List.mem_of_getElem? (i := 26) rfl)
theorem w27 {Z : State} {a0 : Array Value} (hw : ∀ d ∈ tables_1, d.before a0 Z = true) : ((Jvm.Cond.fieldLink "java/lang/AbstractStringBuilder" (22 : Nat) "java/lang/AbstractStringBuilder" "coder" "B")).before a0 Z = true := hw _ (List.mem_of_getElem? (i := 27) rfl)
theorem w28 {Z : State} {a0 : Array Value} (hw : ∀ d ∈ tables_1, d.before a0 Z = true) : ((Jvm.Cond.lays "java/lang/StringBuilder" "java/lang/AbstractStringBuilder" "coder" "B")).before a0 Z = true := hw _ (List.mem_of_getElem? (i := 28) rfl)
theorem w29 {Z : State} {a0 : Array Value} (hw : ∀ d ∈ tables_1, d.before a0 Z = true) : ((Jvm.Cond.fieldLink "com/example/colophon/colophon/api/Html" (10 : Nat) "com/example/colophon/colophon/api/Html" "out" "Ljava/lang/StringBuilder;")).before a0 Z = true := hw _ (List.mem_of_getElem? (i := 29) rfl)
theorem w30 {Z : State} {a0 : Array Value} (hw : ∀ d ∈ tables_1, d.before a0 Z = true) : ((Jvm.Cond.laysFinal "com/example/colophon/colophon/api/Html" "com/example/colophon/colophon/api/Html" "out" "Ljava/lang/StringBuilder;")).before a0 Z = true := hw _ (List.mem_of_getElem? (i := 30) rfl)
theorem w31 {Z : State} {a0 : Array Value} (hw : ∀ d ∈ tables_1, d.before a0 Z = true) : ((Jvm.Cond.methodLink "com/example/colophon/colophon/api/HtmlAppendPinLaw" (10 : Nat) ({ cls := "java/lang/String", name := "valueOf", desc := "(C)Ljava/lang/String;" } : Jvm.MethodName))).before a0 Z = true := hw _ (List.mem_of_getElem? (i := 31) rfl)
theorem w32 {Z : State} {a0 : Array Value} (hw : ∀ d ∈ tables_1, d.before a0 Z = true) : ((Jvm.Cond.static ({ cls := "java/lang/String", name := "valueOf", desc := "(C)Ljava/lang/String;" } : Jvm.MethodName))).before a0 Z = true := hw _ (List.mem_of_getElem? (i := 32) rfl)
theorem w33 {Z : State} {a0 : Array Value} (hw : ∀ d ∈ tables_1, d.before a0 Z = true) : ((Jvm.Cond.code ({ cls := "java/lang/String", name := "valueOf", desc := "(C)Ljava/lang/String;" } : Jvm.MethodName) jdk_42_method_139_code (1 : Nat) (Option.some (Jvm.ClassFile.FieldType.object "java/lang/String")))).before a0 Z = true := hw _ (List.mem_of_getElem? (i := 33) rfl)
theorem w34 {Z : State} {a0 : Array Value} (hw : ∀ d ∈ tables_1, d.before a0 Z = true) : ((Jvm.Cond.fieldLink "java/lang/String" (38 : Nat) "java/lang/String" "COMPACT_STRINGS" "Z")).before a0 Z = true := hw _ (List.mem_of_getElem? (i := 34) rfl)
theorem w35 {Z : State} {a0 : Array Value} (hw : ∀ d ∈ tables_1, d.before a0 Z = true) : ((Jvm.Cond.methodLink "java/lang/String" (1015 : Nat) ({ cls := "java/lang/StringLatin1", name := "canEncode", desc := "(C)Z" } : Jvm.MethodName))).before a0 Z = true := hw _ (List.mem_of_getElem? (i := 35) rfl)
theorem w36 {Z : State} {a0 : Array Value} (hw : ∀ d ∈ tables_1, d.before a0 Z = true) : ((Jvm.Cond.static ({ cls := "java/lang/StringLatin1", name := "canEncode", desc := "(C)Z" } : Jvm.MethodName))).before a0 Z = true := hw _ (List.mem_of_getElem? (i := 36) rfl)
theorem w37 {Z : State} {a0 : Array Value} (hw : ∀ d ∈ tables_1, d.before a0 Z = true) : ((Jvm.Cond.initialized "java/lang/StringLatin1")).before a0 Z = true := hw _ (List.mem_of_getElem? (i := 37) rfl)
theorem w38 {Z : State} {a0 : Array Value} (hw : ∀ d ∈ tables_1, d.before a0 Z = true) : ((Jvm.Cond.code ({ cls := "java/lang/StringLatin1", name := "canEncode", desc := "(C)Z" } : Jvm.MethodName) jdk_43_method_3_code (1 : Nat) (Option.some Jvm.ClassFile.FieldType.boolean))).before a0 Z = true := hw _ (List.mem_of_getElem? (i := 38) rfl)
theorem w39 {Z : State} {a0 : Array Value} (hw : ∀ d ∈ tables_1, d.before a0 Z = true) : ((Jvm.Cond.classLink "java/lang/String" (10 : Nat) "java/lang/String")).before a0 Z = true := hw _ (List.mem_of_getElem? (i := 39) rfl)
theorem w40 {Z : State} {a0 : Array Value} (hw : ∀ d ∈ tables_1, d.before a0 Z = true) : ((Jvm.Cond.instantiable "java/lang/String" (4 : Nat))).before a0 Z = true := hw _ (List.mem_of_getElem? (i := 40) rfl)
theorem w41 {Z : State} {a0 : Array Value} (hw : ∀ d ∈ tables_1, d.before a0 Z = true) : ((Jvm.Cond.methodLink "java/lang/String" (1018 : Nat) ({ cls := "java/lang/StringLatin1", name := "toBytes", desc := "(C)[B" } : Jvm.MethodName))).before a0 Z = true := hw _ (List.mem_of_getElem? (i := 41) rfl)
theorem w42 {Z : State} {a0 : Array Value} (hw : ∀ d ∈ tables_1, d.before a0 Z = true) : ((Jvm.Cond.static ({ cls := "java/lang/StringLatin1", name := "toBytes", desc := "(C)[B" } : Jvm.MethodName))).before a0 Z = true := hw _ (List.mem_of_getElem? (i := 42) rfl)
theorem w43 {Z : State} {a0 : Array Value} (hw : ∀ d ∈ tables_1, d.before a0 Z = true) : ((Jvm.Cond.code ({ cls := "java/lang/StringLatin1", name := "toBytes", desc := "(C)[B" } : Jvm.MethodName) jdk_43_method_46_code (1 : Nat) (Option.some (Jvm.ClassFile.FieldType.array Jvm.ClassFile.FieldType.byte)))).before a0 Z = true := hw _ (List.mem_of_getElem? (i := 43) rfl)
theorem w44 {Z : State} {a0 : Array Value} (hw : ∀ d ∈ tables_1, d.before a0 Z = true) : ((Jvm.Cond.methodLink "java/lang/String" (209 : Nat) ({ cls := "java/lang/String", name := "<init>", desc := "([BB)V" } : Jvm.MethodName))).before a0 Z = true := hw _ (List.mem_of_getElem? (i := 44) rfl)
theorem w45 {Z : State} {a0 : Array Value} (hw : ∀ d ∈ tables_1, d.before a0 Z = true) : ((Jvm.Cond.instanceMethod ({ cls := "java/lang/String", name := "<init>", desc := "([BB)V" } : Jvm.MethodName))).before a0 Z = true := hw _ (List.mem_of_getElem? (i := 45) rfl)
theorem w47 {Z : State} {a0 : Array Value} (hw : ∀ d ∈ tables_1, d.before a0 Z = true) : ((Jvm.Cond.code ({ cls := "java/lang/String", name := "<init>", desc := "([BB)V" } : Jvm.MethodName) jdk_42_method_151_code (3 : Nat) (Option.none : Option Jvm.ClassFile.FieldType))).before a0 Z = true := hw _ (List.mem_of_getElem? (i := 47) rfl)
theorem w48 {Z : State} {a0 : Array Value} (hw : ∀ d ∈ tables_1, d.before a0 Z = true) : ((Jvm.Cond.methodLink "java/lang/String" (1 : Nat) ({ cls := "java/lang/Object", name := "<init>", desc := "()V" } : Jvm.MethodName))).before a0 Z = true := hw _ (List.mem_of_getElem? (i := 48) rfl)
theorem w49 {Z : State} {a0 : Array Value} (hw : ∀ d ∈ tables_1, d.before a0 Z = true) : ((Jvm.Cond.fieldLink "java/lang/String" (9 : Nat) "java/lang/String" "value" "[B")).before a0 Z = true := hw _ (List.mem_of_getElem? (i := 49) rfl)
theorem w50 {Z : State} {a0 : Array Value} (hw : ∀ d ∈ tables_1, d.before a0 Z = true) : ((Jvm.Cond.laysFinal "java/lang/String" "java/lang/String" "value" "[B")).before a0 Z = true := hw _ (List.mem_of_getElem? (i := 50) rfl)
theorem w51 {Z : State} {a0 : Array Value} (hw : ∀ d ∈ tables_1, d.before a0 Z = true) : ((Jvm.Cond.fieldLink "java/lang/String" (15 : Nat) "java/lang/String" "coder" "B")).before a0 Z = true := hw _ (List.mem_of_getElem? (i := 51) rfl)
theorem w52 {Z : State} {a0 : Array Value} (hw : ∀ d ∈ tables_1, d.before a0 Z = true) : ((Jvm.Cond.laysFinal "java/lang/String" "java/lang/String" "coder" "B")).before a0 Z = true := hw _ (List.mem_of_getElem? (i := 52) rfl)
theorem w53 {Z : State} {a0 : Array Value} (hw : ∀ d ∈ tables_1, d.before a0 Z = true) : ((Jvm.Cond.methodLink "com/example/colophon/colophon/api/HtmlAppendPinLaw" (16 : Nat) ({ cls := "com/example/colophon/colophon/api/Html", name := "close", desc := "(Ljava/lang/String;)Lcom/example/colophon/colophon/api/Html;" } : Jvm.MethodName))).before a0 Z = true := hw _ (List.mem_of_getElem? (i := 53) rfl)
theorem w54 {Z : State} {a0 : Array Value} (hw : ∀ d ∈ tables_1, d.before a0 Z = true) : ((Jvm.Cond.declares ({ cls := "com/example/colophon/colophon/api/Html", name := "close", desc := "(Ljava/lang/String;)Lcom/example/colophon/colophon/api/Html;" } : Jvm.MethodName))).before a0 Z = true := hw _ (List.mem_of_getElem? (i := 54) rfl)
theorem w55 {Z : State} {a0 : Array Value} (hw : ∀ d ∈ tables_1, d.before a0 Z = true) : ((Jvm.Cond.instanceMethod ({ cls := "com/example/colophon/colophon/api/Html", name := "close", desc := "(Ljava/lang/String;)Lcom/example/colophon/colophon/api/Html;" } : Jvm.MethodName))).before a0 Z = true := hw _ (List.mem_of_getElem? (i := 55) rfl)
theorem w56 {Z : State} {a0 : Array Value} (hw : ∀ d ∈ tables_1, d.before a0 Z = true) : ((Jvm.Cond.selects "com/example/colophon/colophon/api/Html" ({ cls := "com/example/colophon/colophon/api/Html", name := "close", desc := "(Ljava/lang/String;)Lcom/example/colophon/colophon/api/Html;" } : Jvm.MethodName) ({ cls := "com/example/colophon/colophon/api/Html", name := "close", desc := "(Ljava/lang/String;)Lcom/example/colophon/colophon/api/Html;" } : Jvm.MethodName))).before a0 Z = true := hw _ (List.mem_of_getElem? (i := 56) rfl)
theorem w57 {Z : State} {a0 : Array Value} (hw : ∀ d ∈ tables_1, d.before a0 Z = true) : ((Jvm.Cond.code ({ cls := "com/example/colophon/colophon/api/Html", name := "close", desc := "(Ljava/lang/String;)Lcom/example/colophon/colophon/api/Html;" } : Jvm.MethodName) prog_5_method_3_code (2 : Nat) (Option.some (Jvm.ClassFile.FieldType.object "com/example/colophon/colophon/api/Html")))).before a0 Z = true := hw _ (List.mem_of_getElem? (i := 57) rfl)
theorem w58 {Z : State} {a0 : Array Value} (hw : ∀ d ∈ tables_1, d.before a0 Z = true) : ((Jvm.Cond.stringLink "com/example/colophon/colophon/api/Html" (36 : Nat) "</")).before a0 Z = true := hw _ (List.mem_of_getElem? (i := 58) rfl)
theorem w61 {Z : State} {a0 : Array Value} (hw : ∀ d ∈ tables_1, d.before a0 Z = true) : ((Jvm.Cond.methodLink "com/example/colophon/colophon/api/Html" (27 : Nat) ({ cls := "java/lang/StringBuilder", name := "append", desc := "(Ljava/lang/String;)Ljava/lang/StringBuilder;" } : Jvm.MethodName))).before a0 Z = true := hw _ (List.mem_of_getElem? (i := 61) rfl)
theorem w62 {Z : State} {a0 : Array Value} (hw : ∀ d ∈ tables_1, d.before a0 Z = true) : ((Jvm.Cond.declares ({ cls := "java/lang/StringBuilder", name := "append", desc := "(Ljava/lang/String;)Ljava/lang/StringBuilder;" } : Jvm.MethodName))).before a0 Z = true := hw _ (List.mem_of_getElem? (i := 62) rfl)
theorem w63 {Z : State} {a0 : Array Value} (hw : ∀ d ∈ tables_1, d.before a0 Z = true) : ((Jvm.Cond.instanceMethod ({ cls := "java/lang/StringBuilder", name := "append", desc := "(Ljava/lang/String;)Ljava/lang/StringBuilder;" } : Jvm.MethodName))).before a0 Z = true := hw _ (List.mem_of_getElem? (i := 63) rfl)
theorem w64 {Z : State} {a0 : Array Value} (hw : ∀ d ∈ tables_1, d.before a0 Z = true) : ((Jvm.Cond.selects "java/lang/StringBuilder" ({ cls := "java/lang/StringBuilder", name := "append", desc := "(Ljava/lang/String;)Ljava/lang/StringBuilder;" } : Jvm.MethodName) ({ cls := "java/lang/StringBuilder", name := "append", desc := "(Ljava/lang/String;)Ljava/lang/StringBuilder;" } : Jvm.MethodName))).before a0 Z = true := hw _ (List.mem_of_getElem? (i := 64) rfl)
theorem w65 {Z : State} {a0 : Array Value} (hw : ∀ d ∈ tables_1, d.before a0 Z = true) : ((Jvm.Cond.code ({ cls := "java/lang/StringBuilder", name := "append", desc := "(Ljava/lang/String;)Ljava/lang/StringBuilder;" } : Jvm.MethodName) jdk_67_method_7_code (2 : Nat) (Option.some (Jvm.ClassFile.FieldType.object "java/lang/StringBuilder")))).before a0 Z = true := hw _ (List.mem_of_getElem? (i := 65) rfl)
theorem w66 {Z : State} {a0 : Array Value} (hw : ∀ d ∈ tables_1, d.before a0 Z = true) : ((Jvm.Cond.methodLink "java/lang/StringBuilder" (29 : Nat) ({ cls := "java/lang/AbstractStringBuilder", name := "append", desc := "(Ljava/lang/String;)Ljava/lang/AbstractStringBuilder;" } : Jvm.MethodName))).before a0 Z = true := hw _ (List.mem_of_getElem? (i := 66) rfl)
theorem w67 {Z : State} {a0 : Array Value} (hw : ∀ d ∈ tables_1, d.before a0 Z = true) : ((Jvm.Cond.instanceMethod ({ cls := "java/lang/AbstractStringBuilder", name := "append", desc := "(Ljava/lang/String;)Ljava/lang/AbstractStringBuilder;" } : Jvm.MethodName))).before a0 Z = true := hw _ (List.mem_of_getElem? (i := 67) rfl)
theorem w68 {Z : State} {a0 : Array Value} (hw : ∀ d ∈ tables_1, d.before a0 Z = true) : ((Jvm.Cond.superclass "java/lang/StringBuilder" "java/lang/AbstractStringBuilder")).before a0 Z = true := hw _ (List.mem_of_getElem? (i := 68) rfl)
theorem w70 {Z : State} {a0 : Array Value} (hw : ∀ d ∈ tables_1, d.before a0 Z = true) : ((Jvm.Cond.code ({ cls := "java/lang/AbstractStringBuilder", name := "append", desc := "(Ljava/lang/String;)Ljava/lang/AbstractStringBuilder;" } : Jvm.MethodName) jdk_68_method_22_code (3 : Nat) (Option.some (Jvm.ClassFile.FieldType.object "java/lang/AbstractStringBuilder")))).before a0 Z = true := hw _ (List.mem_of_getElem? (i := 70) rfl)
theorem w71 {Z : State} {a0 : Array Value} (hw : ∀ d ∈ tables_1, d.before a0 Z = true) : ((Jvm.Cond.methodLink "java/lang/AbstractStringBuilder" (32 : Nat) ({ cls := "java/lang/String", name := "length", desc := "()I" } : Jvm.MethodName))).before a0 Z = true := hw _ (List.mem_of_getElem? (i := 71) rfl)
theorem w72 {Z : State} {a0 : Array Value} (hw : ∀ d ∈ tables_1, d.before a0 Z = true) : ((Jvm.Cond.declares ({ cls := "java/lang/String", name := "length", desc := "()I" } : Jvm.MethodName))).before a0 Z = true := hw _ (List.mem_of_getElem? (i := 72) rfl)
theorem w73 {Z : State} {a0 : Array Value} (hw : ∀ d ∈ tables_1, d.before a0 Z = true) : ((Jvm.Cond.instanceMethod ({ cls := "java/lang/String", name := "length", desc := "()I" } : Jvm.MethodName))).before a0 Z = true := hw _ (List.mem_of_getElem? (i := 73) rfl)
theorem w74 {Z : State} {a0 : Array Value} (hw : ∀ d ∈ tables_1, d.before a0 Z = true) : ((Jvm.Cond.selects "java/lang/String" ({ cls := "java/lang/String", name := "length", desc := "()I" } : Jvm.MethodName) ({ cls := "java/lang/String", name := "length", desc := "()I" } : Jvm.MethodName))).before a0 Z = true := hw _ (List.mem_of_getElem? (i := 74) rfl)
theorem w75 {Z : State} {a0 : Array Value} (hw : ∀ d ∈ tables_1, d.before a0 Z = true) : ((Jvm.Cond.code ({ cls := "java/lang/String", name := "length", desc := "()I" } : Jvm.MethodName) jdk_42_method_54_code (1 : Nat) (Option.some Jvm.ClassFile.FieldType.int))).before a0 Z = true := hw _ (List.mem_of_getElem? (i := 75) rfl)
theorem w76 {Z : State} {a0 : Array Value} (hw : ∀ d ∈ tables_1, d.before a0 Z = true) : ((Jvm.Cond.methodLink "java/lang/String" (335 : Nat) ({ cls := "java/lang/String", name := "coder", desc := "()B" } : Jvm.MethodName))).before a0 Z = true := hw _ (List.mem_of_getElem? (i := 76) rfl)
theorem w77 {Z : State} {a0 : Array Value} (hw : ∀ d ∈ tables_1, d.before a0 Z = true) : ((Jvm.Cond.declares ({ cls := "java/lang/String", name := "coder", desc := "()B" } : Jvm.MethodName))).before a0 Z = true := hw _ (List.mem_of_getElem? (i := 77) rfl)
theorem w78 {Z : State} {a0 : Array Value} (hw : ∀ d ∈ tables_1, d.before a0 Z = true) : ((Jvm.Cond.instanceMethod ({ cls := "java/lang/String", name := "coder", desc := "()B" } : Jvm.MethodName))).before a0 Z = true := hw _ (List.mem_of_getElem? (i := 78) rfl)
theorem w79 {Z : State} {a0 : Array Value} (hw : ∀ d ∈ tables_1, d.before a0 Z = true) : ((Jvm.Cond.selects "java/lang/String" ({ cls := "java/lang/String", name := "coder", desc := "()B" } : Jvm.MethodName) ({ cls := "java/lang/String", name := "coder", desc := "()B" } : Jvm.MethodName))).before a0 Z = true := hw _ (List.mem_of_getElem? (i := 79) rfl)
theorem w80 {Z : State} {a0 : Array Value} (hw : ∀ d ∈ tables_1, d.before a0 Z = true) : ((Jvm.Cond.code ({ cls := "java/lang/String", name := "coder", desc := "()B" } : Jvm.MethodName) jdk_42_method_152_code (1 : Nat) (Option.some Jvm.ClassFile.FieldType.byte))).before a0 Z = true := hw _ (List.mem_of_getElem? (i := 80) rfl)
theorem w81 {Z : State} {a0 : Array Value} (hw : ∀ d ∈ tables_1, d.before a0 Z = true) : ((Jvm.Cond.fieldLink "java/lang/AbstractStringBuilder" (79 : Nat) "java/lang/AbstractStringBuilder" "count" "I")).before a0 Z = true := hw _ (List.mem_of_getElem? (i := 81) rfl)
theorem w82 {Z : State} {a0 : Array Value} (hw : ∀ d ∈ tables_1, d.before a0 Z = true) : ((Jvm.Cond.lays "java/lang/StringBuilder" "java/lang/AbstractStringBuilder" "count" "I")).before a0 Z = true := hw _ (List.mem_of_getElem? (i := 82) rfl)
theorem w83 {Z : State} {a0 : Array Value} (hw : ∀ d ∈ tables_1, d.before a0 Z = true) : ((Jvm.Cond.methodLink "java/lang/AbstractStringBuilder" (100 : Nat) ({ cls := "java/lang/AbstractStringBuilder", name := "ensureCapacityInternal", desc := "(I)V" } : Jvm.MethodName))).before a0 Z = true := hw _ (List.mem_of_getElem? (i := 83) rfl)
theorem w84 {Z : State} {a0 : Array Value} (hw : ∀ d ∈ tables_1, d.before a0 Z = true) : ((Jvm.Cond.instanceMethod ({ cls := "java/lang/AbstractStringBuilder", name := "ensureCapacityInternal", desc := "(I)V" } : Jvm.MethodName))).before a0 Z = true := hw _ (List.mem_of_getElem? (i := 84) rfl)
theorem w85 {Z : State} {a0 : Array Value} (hw : ∀ d ∈ tables_1, d.before a0 Z = true) : ((Jvm.Cond.privateMethod ({ cls := "java/lang/AbstractStringBuilder", name := "ensureCapacityInternal", desc := "(I)V" } : Jvm.MethodName))).before a0 Z = true := hw _ (List.mem_of_getElem? (i := 85) rfl)
theorem w86 {Z : State} {a0 : Array Value} (hw : ∀ d ∈ tables_1, d.before a0 Z = true) : ((Jvm.Cond.selects "java/lang/StringBuilder" ({ cls := "java/lang/AbstractStringBuilder", name := "ensureCapacityInternal", desc := "(I)V" } : Jvm.MethodName) ({ cls := "java/lang/AbstractStringBuilder", name := "ensureCapacityInternal", desc := "(I)V" } : Jvm.MethodName))).before a0 Z = true := hw _ (List.mem_of_getElem? (i := 86) rfl)
theorem w87 {Z : State} {a0 : Array Value} (hw : ∀ d ∈ tables_1, d.before a0 Z = true) : ((Jvm.Cond.code ({ cls := "java/lang/AbstractStringBuilder", name := "ensureCapacityInternal", desc := "(I)V" } : Jvm.MethodName) jdk_68_method_9_code (3 : Nat) (Option.none : Option Jvm.ClassFile.FieldType))).before a0 Z = true := hw _ (List.mem_of_getElem? (i := 87) rfl)
theorem w88 {Z : State} {a0 : Array Value} (hw : ∀ d ∈ tables_1, d.before a0 Z = true) : ((Jvm.Cond.methodLink "java/lang/AbstractStringBuilder" (208 : Nat) ({ cls := "java/lang/AbstractStringBuilder", name := "putStringAt", desc := "(ILjava/lang/String;)V" } : Jvm.MethodName))).before a0 Z = true := hw _ (List.mem_of_getElem? (i := 88) rfl)
theorem w89 {Z : State} {a0 : Array Value} (hw : ∀ d ∈ tables_1, d.before a0 Z = true) : ((Jvm.Cond.instanceMethod ({ cls := "java/lang/AbstractStringBuilder", name := "putStringAt", desc := "(ILjava/lang/String;)V" } : Jvm.MethodName))).before a0 Z = true := hw _ (List.mem_of_getElem? (i := 89) rfl)
theorem w90 {Z : State} {a0 : Array Value} (hw : ∀ d ∈ tables_1, d.before a0 Z = true) : ((Jvm.Cond.privateMethod ({ cls := "java/lang/AbstractStringBuilder", name := "putStringAt", desc := "(ILjava/lang/String;)V" } : Jvm.MethodName))).before a0 Z = true := hw _ (List.mem_of_getElem? (i := 90) rfl)
theorem w91 {Z : State} {a0 : Array Value} (hw : ∀ d ∈ tables_1, d.before a0 Z = true) : ((Jvm.Cond.selects "java/lang/StringBuilder" ({ cls := "java/lang/AbstractStringBuilder", name := "putStringAt", desc := "(ILjava/lang/String;)V" } : Jvm.MethodName) ({ cls := "java/lang/AbstractStringBuilder", name := "putStringAt", desc := "(ILjava/lang/String;)V" } : Jvm.MethodName))).before a0 Z = true := hw _ (List.mem_of_getElem? (i := 91) rfl)
theorem w92 {Z : State} {a0 : Array Value} (hw : ∀ d ∈ tables_1, d.before a0 Z = true) : ((Jvm.Cond.code ({ cls := "java/lang/AbstractStringBuilder", name := "putStringAt", desc := "(ILjava/lang/String;)V" } : Jvm.MethodName) jdk_68_method_73_code (3 : Nat) (Option.none : Option Jvm.ClassFile.FieldType))).before a0 Z = true := hw _ (List.mem_of_getElem? (i := 92) rfl)
theorem w93 {Z : State} {a0 : Array Value} (hw : ∀ d ∈ tables_1, d.before a0 Z = true) : ((Jvm.Cond.methodLink "java/lang/AbstractStringBuilder" (397 : Nat) ({ cls := "java/lang/AbstractStringBuilder", name := "inflateIfNeededFor", desc := "(Ljava/lang/String;)V" } : Jvm.MethodName))).before a0 Z = true := hw _ (List.mem_of_getElem? (i := 93) rfl)
theorem w94 {Z : State} {a0 : Array Value} (hw : ∀ d ∈ tables_1, d.before a0 Z = true) : ((Jvm.Cond.instanceMethod ({ cls := "java/lang/AbstractStringBuilder", name := "inflateIfNeededFor", desc := "(Ljava/lang/String;)V" } : Jvm.MethodName))).before a0 Z = true := hw _ (List.mem_of_getElem? (i := 94) rfl)
theorem w95 {Z : State} {a0 : Array Value} (hw : ∀ d ∈ tables_1, d.before a0 Z = true) : ((Jvm.Cond.privateMethod ({ cls := "java/lang/AbstractStringBuilder", name := "inflateIfNeededFor", desc := "(Ljava/lang/String;)V" } : Jvm.MethodName))).before a0 Z = true := hw _ (List.mem_of_getElem? (i := 95) rfl)
theorem w96 {Z : State} {a0 : Array Value} (hw : ∀ d ∈ tables_1, d.before a0 Z = true) : ((Jvm.Cond.selects "java/lang/StringBuilder" ({ cls := "java/lang/AbstractStringBuilder", name := "inflateIfNeededFor", desc := "(Ljava/lang/String;)V" } : Jvm.MethodName) ({ cls := "java/lang/AbstractStringBuilder", name := "inflateIfNeededFor", desc := "(Ljava/lang/String;)V" } : Jvm.MethodName))).before a0 Z = true := hw _ (List.mem_of_getElem? (i := 96) rfl)
theorem w97 {Z : State} {a0 : Array Value} (hw : ∀ d ∈ tables_1, d.before a0 Z = true) : ((Jvm.Cond.code ({ cls := "java/lang/AbstractStringBuilder", name := "inflateIfNeededFor", desc := "(Ljava/lang/String;)V" } : Jvm.MethodName) jdk_68_method_71_code (2 : Nat) (Option.none : Option Jvm.ClassFile.FieldType))).before a0 Z = true := hw _ (List.mem_of_getElem? (i := 97) rfl)
theorem w98 {Z : State} {a0 : Array Value} (hw : ∀ d ∈ tables_1, d.before a0 Z = true) : ((Jvm.Cond.methodLink "java/lang/AbstractStringBuilder" (40 : Nat) ({ cls := "java/lang/String", name := "coder", desc := "()B" } : Jvm.MethodName))).before a0 Z = true := hw _ (List.mem_of_getElem? (i := 98) rfl)
theorem w99 {Z : State} {a0 : Array Value} (hw : ∀ d ∈ tables_1, d.before a0 Z = true) : ((Jvm.Cond.methodLink "java/lang/AbstractStringBuilder" (399 : Nat) ({ cls := "java/lang/String", name := "getBytes", desc := "([BIB)V" } : Jvm.MethodName))).before a0 Z = true := hw _ (List.mem_of_getElem? (i := 99) rfl)
theorem w100 {Z : State} {a0 : Array Value} (hw : ∀ d ∈ tables_1, d.before a0 Z = true) : ((Jvm.Cond.declares ({ cls := "java/lang/String", name := "getBytes", desc := "([BIB)V" } : Jvm.MethodName))).before a0 Z = true := hw _ (List.mem_of_getElem? (i := 100) rfl)
theorem w101 {Z : State} {a0 : Array Value} (hw : ∀ d ∈ tables_1, d.before a0 Z = true) : ((Jvm.Cond.instanceMethod ({ cls := "java/lang/String", name := "getBytes", desc := "([BIB)V" } : Jvm.MethodName))).before a0 Z = true := hw _ (List.mem_of_getElem? (i := 101) rfl)
theorem w102 {Z : State} {a0 : Array Value} (hw : ∀ d ∈ tables_1, d.before a0 Z = true) : ((Jvm.Cond.selects "java/lang/String" ({ cls := "java/lang/String", name := "getBytes", desc := "([BIB)V" } : Jvm.MethodName) ({ cls := "java/lang/String", name := "getBytes", desc := "([BIB)V" } : Jvm.MethodName))).before a0 Z = true := hw _ (List.mem_of_getElem? (i := 102) rfl)
theorem w103 {Z : State} {a0 : Array Value} (hw : ∀ d ∈ tables_1, d.before a0 Z = true) : ((Jvm.Cond.code ({ cls := "java/lang/String", name := "getBytes", desc := "([BIB)V" } : Jvm.MethodName) jdk_42_method_147_code (4 : Nat) (Option.none : Option Jvm.ClassFile.FieldType))).before a0 Z = true := hw _ (List.mem_of_getElem? (i := 103) rfl)
theorem w104 {Z : State} {a0 : Array Value} (hw : ∀ d ∈ tables_1, d.before a0 Z = true) : ((Jvm.Cond.methodLink "java/lang/String" (212 : Nat) ({ cls := "java/lang/System", name := "arraycopy", desc := "(Ljava/lang/Object;ILjava/lang/Object;II)V" } : Jvm.MethodName))).before a0 Z = true := hw _ (List.mem_of_getElem? (i := 104) rfl)
theorem w105 {Z : State} {a0 : Array Value} (hw : ∀ d ∈ tables_1, d.before a0 Z = true) : ((Jvm.Cond.static ({ cls := "java/lang/System", name := "arraycopy", desc := "(Ljava/lang/Object;ILjava/lang/Object;II)V" } : Jvm.MethodName))).before a0 Z = true := hw _ (List.mem_of_getElem? (i := 105) rfl)
theorem w106 {Z : State} {a0 : Array Value} (hw : ∀ d ∈ tables_1, d.before a0 Z = true) : ((Jvm.Cond.initialized "java/lang/System")).before a0 Z = true := hw _ (List.mem_of_getElem? (i := 106) rfl)
theorem w107 {Z : State} {a0 : Array Value} (hw : ∀ d ∈ tables_1, d.before a0 Z = true) : ((Jvm.Cond.native ({ cls := "java/lang/System", name := "arraycopy", desc := "(Ljava/lang/Object;ILjava/lang/Object;II)V" } : Jvm.MethodName))).before a0 Z = true := hw _ (List.mem_of_getElem? (i := 107) rfl)
theorem w108 {Z : State} {a0 : Array Value} (hw : ∀ d ∈ tables_1, d.before a0 Z = true) : ((Jvm.Cond.methodLink "com/example/colophon/colophon/api/Html" (23 : Nat) ({ cls := "java/lang/StringBuilder", name := "append", desc := "(C)Ljava/lang/StringBuilder;" } : Jvm.MethodName))).before a0 Z = true := hw _ (List.mem_of_getElem? (i := 108) rfl)
theorem w109 {Z : State} {a0 : Array Value} (hw : ∀ d ∈ tables_1, d.before a0 Z = true) : ((Jvm.Cond.declares ({ cls := "java/lang/StringBuilder", name := "append", desc := "(C)Ljava/lang/StringBuilder;" } : Jvm.MethodName))).before a0 Z = true := hw _ (List.mem_of_getElem? (i := 109) rfl)
theorem w110 {Z : State} {a0 : Array Value} (hw : ∀ d ∈ tables_1, d.before a0 Z = true) : ((Jvm.Cond.instanceMethod ({ cls := "java/lang/StringBuilder", name := "append", desc := "(C)Ljava/lang/StringBuilder;" } : Jvm.MethodName))).before a0 Z = true := hw _ (List.mem_of_getElem? (i := 110) rfl)
theorem w111 {Z : State} {a0 : Array Value} (hw : ∀ d ∈ tables_1, d.before a0 Z = true) : ((Jvm.Cond.selects "java/lang/StringBuilder" ({ cls := "java/lang/StringBuilder", name := "append", desc := "(C)Ljava/lang/StringBuilder;" } : Jvm.MethodName) ({ cls := "java/lang/StringBuilder", name := "append", desc := "(C)Ljava/lang/StringBuilder;" } : Jvm.MethodName))).before a0 Z = true := hw _ (List.mem_of_getElem? (i := 111) rfl)
theorem w112 {Z : State} {a0 : Array Value} (hw : ∀ d ∈ tables_1, d.before a0 Z = true) : ((Jvm.Cond.code ({ cls := "java/lang/StringBuilder", name := "append", desc := "(C)Ljava/lang/StringBuilder;" } : Jvm.MethodName) jdk_67_method_14_code (2 : Nat) (Option.some (Jvm.ClassFile.FieldType.object "java/lang/StringBuilder")))).before a0 Z = true := hw _ (List.mem_of_getElem? (i := 112) rfl)
theorem w113 {Z : State} {a0 : Array Value} (hw : ∀ d ∈ tables_1, d.before a0 Z = true) : ((Jvm.Cond.methodLink "java/lang/StringBuilder" (50 : Nat) ({ cls := "java/lang/AbstractStringBuilder", name := "append", desc := "(C)Ljava/lang/AbstractStringBuilder;" } : Jvm.MethodName))).before a0 Z = true := hw _ (List.mem_of_getElem? (i := 113) rfl)
theorem w114 {Z : State} {a0 : Array Value} (hw : ∀ d ∈ tables_1, d.before a0 Z = true) : ((Jvm.Cond.instanceMethod ({ cls := "java/lang/AbstractStringBuilder", name := "append", desc := "(C)Ljava/lang/AbstractStringBuilder;" } : Jvm.MethodName))).before a0 Z = true := hw _ (List.mem_of_getElem? (i := 114) rfl)
theorem w116 {Z : State} {a0 : Array Value} (hw : ∀ d ∈ tables_1, d.before a0 Z = true) : ((Jvm.Cond.code ({ cls := "java/lang/AbstractStringBuilder", name := "append", desc := "(C)Ljava/lang/AbstractStringBuilder;" } : Jvm.MethodName) jdk_68_method_31_code (2 : Nat) (Option.some (Jvm.ClassFile.FieldType.object "java/lang/AbstractStringBuilder")))).before a0 Z = true := hw _ (List.mem_of_getElem? (i := 116) rfl)
theorem w117 {Z : State} {a0 : Array Value} (hw : ∀ d ∈ tables_1, d.before a0 Z = true) : ((Jvm.Cond.methodLink "java/lang/AbstractStringBuilder" (83 : Nat) ({ cls := "java/lang/AbstractStringBuilder", name := "isLatin1", desc := "()Z" } : Jvm.MethodName))).before a0 Z = true := hw _ (List.mem_of_getElem? (i := 117) rfl)
theorem w118 {Z : State} {a0 : Array Value} (hw : ∀ d ∈ tables_1, d.before a0 Z = true) : ((Jvm.Cond.declares ({ cls := "java/lang/AbstractStringBuilder", name := "isLatin1", desc := "()Z" } : Jvm.MethodName))).before a0 Z = true := hw _ (List.mem_of_getElem? (i := 118) rfl)
theorem w119 {Z : State} {a0 : Array Value} (hw : ∀ d ∈ tables_1, d.before a0 Z = true) : ((Jvm.Cond.instanceMethod ({ cls := "java/lang/AbstractStringBuilder", name := "isLatin1", desc := "()Z" } : Jvm.MethodName))).before a0 Z = true := hw _ (List.mem_of_getElem? (i := 119) rfl)
theorem w120 {Z : State} {a0 : Array Value} (hw : ∀ d ∈ tables_1, d.before a0 Z = true) : ((Jvm.Cond.selects "java/lang/StringBuilder" ({ cls := "java/lang/AbstractStringBuilder", name := "isLatin1", desc := "()Z" } : Jvm.MethodName) ({ cls := "java/lang/AbstractStringBuilder", name := "isLatin1", desc := "()Z" } : Jvm.MethodName))).before a0 Z = true := hw _ (List.mem_of_getElem? (i := 120) rfl)
theorem w121 {Z : State} {a0 : Array Value} (hw : ∀ d ∈ tables_1, d.before a0 Z = true) : ((Jvm.Cond.code ({ cls := "java/lang/AbstractStringBuilder", name := "isLatin1", desc := "()Z" } : Jvm.MethodName) jdk_68_method_68_code (1 : Nat) (Option.some Jvm.ClassFile.FieldType.boolean))).before a0 Z = true := hw _ (List.mem_of_getElem? (i := 121) rfl)
theorem w122 {Z : State} {a0 : Array Value} (hw : ∀ d ∈ tables_1, d.before a0 Z = true) : ((Jvm.Cond.methodLink "java/lang/AbstractStringBuilder" (191 : Nat) ({ cls := "java/lang/StringLatin1", name := "canEncode", desc := "(C)Z" } : Jvm.MethodName))).before a0 Z = true := hw _ (List.mem_of_getElem? (i := 122) rfl)
theorem w123 {Z : State} {a0 : Array Value} (hw : ∀ d ∈ tables_1, d.before a0 Z = true) : ((Jvm.Cond.methodLink "com/example/colophon/colophon/api/HtmlAppendPinLaw" (20 : Nat) ({ cls := "com/example/colophon/colophon/api/Html", name := "append", desc := "(Lcom/example/colophon/colophon/api/Html;)Lcom/example/colophon/colophon/api/Html;" } : Jvm.MethodName))).before a0 Z = true := hw _ (List.mem_of_getElem? (i := 123) rfl)
theorem w124 {Z : State} {a0 : Array Value} (hw : ∀ d ∈ tables_1, d.before a0 Z = true) : ((Jvm.Cond.declares ({ cls := "com/example/colophon/colophon/api/Html", name := "append", desc := "(Lcom/example/colophon/colophon/api/Html;)Lcom/example/colophon/colophon/api/Html;" } : Jvm.MethodName))).before a0 Z = true := hw _ (List.mem_of_getElem? (i := 124) rfl)
theorem w125 {Z : State} {a0 : Array Value} (hw : ∀ d ∈ tables_1, d.before a0 Z = true) : ((Jvm.Cond.instanceMethod ({ cls := "com/example/colophon/colophon/api/Html", name := "append", desc := "(Lcom/example/colophon/colophon/api/Html;)Lcom/example/colophon/colophon/api/Html;" } : Jvm.MethodName))).before a0 Z = true := hw _ (List.mem_of_getElem? (i := 125) rfl)
theorem w126 {Z : State} {a0 : Array Value} (hw : ∀ d ∈ tables_1, d.before a0 Z = true) : ((Jvm.Cond.selects "com/example/colophon/colophon/api/Html" ({ cls := "com/example/colophon/colophon/api/Html", name := "append", desc := "(Lcom/example/colophon/colophon/api/Html;)Lcom/example/colophon/colophon/api/Html;" } : Jvm.MethodName) ({ cls := "com/example/colophon/colophon/api/Html", name := "append", desc := "(Lcom/example/colophon/colophon/api/Html;)Lcom/example/colophon/colophon/api/Html;" } : Jvm.MethodName))).before a0 Z = true := hw _ (List.mem_of_getElem? (i := 126) rfl)
theorem w127 {Z : State} {a0 : Array Value} (hw : ∀ d ∈ tables_1, d.before a0 Z = true) : ((Jvm.Cond.code ({ cls := "com/example/colophon/colophon/api/Html", name := "append", desc := "(Lcom/example/colophon/colophon/api/Html;)Lcom/example/colophon/colophon/api/Html;" } : Jvm.MethodName) prog_5_method_7_code (2 : Nat) (Option.some (Jvm.ClassFile.FieldType.object "com/example/colophon/colophon/api/Html")))).before a0 Z = true := hw _ (List.mem_of_getElem? (i := 127) rfl)
theorem w128 {Z : State} {a0 : Array Value} (hw : ∀ d ∈ tables_1, d.before a0 Z = true) : ((Jvm.Cond.methodLink "com/example/colophon/colophon/api/Html" (59 : Nat) ({ cls := "java/lang/StringBuilder", name := "append", desc := "(Ljava/lang/CharSequence;)Ljava/lang/StringBuilder;" } : Jvm.MethodName))).before a0 Z = true := hw _ (List.mem_of_getElem? (i := 128) rfl)
theorem w129 {Z : State} {a0 : Array Value} (hw : ∀ d ∈ tables_1, d.before a0 Z = true) : ((Jvm.Cond.declares ({ cls := "java/lang/StringBuilder", name := "append", desc := "(Ljava/lang/CharSequence;)Ljava/lang/StringBuilder;" } : Jvm.MethodName))).before a0 Z = true := hw _ (List.mem_of_getElem? (i := 129) rfl)
theorem w130 {Z : State} {a0 : Array Value} (hw : ∀ d ∈ tables_1, d.before a0 Z = true) : ((Jvm.Cond.instanceMethod ({ cls := "java/lang/StringBuilder", name := "append", desc := "(Ljava/lang/CharSequence;)Ljava/lang/StringBuilder;" } : Jvm.MethodName))).before a0 Z = true := hw _ (List.mem_of_getElem? (i := 130) rfl)
theorem w131 {Z : State} {a0 : Array Value} (hw : ∀ d ∈ tables_1, d.before a0 Z = true) : ((Jvm.Cond.selects "java/lang/StringBuilder" ({ cls := "java/lang/StringBuilder", name := "append", desc := "(Ljava/lang/CharSequence;)Ljava/lang/StringBuilder;" } : Jvm.MethodName) ({ cls := "java/lang/StringBuilder", name := "append", desc := "(Ljava/lang/CharSequence;)Ljava/lang/StringBuilder;" } : Jvm.MethodName))).before a0 Z = true := hw _ (List.mem_of_getElem? (i := 131) rfl)
theorem w132 {Z : State} {a0 : Array Value} (hw : ∀ d ∈ tables_1, d.before a0 Z = true) : ((Jvm.Cond.code ({ cls := "java/lang/StringBuilder", name := "append", desc := "(Ljava/lang/CharSequence;)Ljava/lang/StringBuilder;" } : Jvm.MethodName) jdk_67_method_9_code (2 : Nat) (Option.some (Jvm.ClassFile.FieldType.object "java/lang/StringBuilder")))).before a0 Z = true := hw _ (List.mem_of_getElem? (i := 132) rfl)
theorem w133 {Z : State} {a0 : Array Value} (hw : ∀ d ∈ tables_1, d.before a0 Z = true) : ((Jvm.Cond.methodLink "java/lang/StringBuilder" (35 : Nat) ({ cls := "java/lang/AbstractStringBuilder", name := "append", desc := "(Ljava/lang/CharSequence;)Ljava/lang/AbstractStringBuilder;" } : Jvm.MethodName))).before a0 Z = true := hw _ (List.mem_of_getElem? (i := 133) rfl)
theorem w134 {Z : State} {a0 : Array Value} (hw : ∀ d ∈ tables_1, d.before a0 Z = true) : ((Jvm.Cond.instanceMethod ({ cls := "java/lang/AbstractStringBuilder", name := "append", desc := "(Ljava/lang/CharSequence;)Ljava/lang/AbstractStringBuilder;" } : Jvm.MethodName))).before a0 Z = true := hw _ (List.mem_of_getElem? (i := 134) rfl)
theorem w136 {Z : State} {a0 : Array Value} (hw : ∀ d ∈ tables_1, d.before a0 Z = true) : ((Jvm.Cond.code ({ cls := "java/lang/AbstractStringBuilder", name := "append", desc := "(Ljava/lang/CharSequence;)Ljava/lang/AbstractStringBuilder;" } : Jvm.MethodName) jdk_68_method_25_code (2 : Nat) (Option.some (Jvm.ClassFile.FieldType.object "java/lang/AbstractStringBuilder")))).before a0 Z = true := hw _ (List.mem_of_getElem? (i := 136) rfl)
theorem w137 {Z : State} {a0 : Array Value} (hw : ∀ d ∈ tables_1, d.before a0 Z = true) : ((Jvm.Cond.classLink "java/lang/AbstractStringBuilder" (1 : Nat) "java/lang/String")).before a0 Z = true := hw _ (List.mem_of_getElem? (i := 137) rfl)
theorem w138 {Z : State} {a0 : Array Value} (hw : ∀ d ∈ tables_1, d.before a0 Z = true) : ((Jvm.Cond.superclass "java/lang/AbstractStringBuilder" "java/lang/Object")).before a0 Z = true := hw _ (List.mem_of_getElem? (i := 138) rfl)
theorem w139 {Z : State} {a0 : Array Value} (hw : ∀ d ∈ tables_1, d.before a0 Z = true) : ((Jvm.Cond.noSuperclass "java/lang/Object")).before a0 Z = true := hw _ (List.mem_of_getElem? (i := 139) rfl)
theorem w140 {Z : State} {a0 : Array Value} (hw : ∀ d ∈ tables_1, d.before a0 Z = true) : ((Jvm.Cond.classLink "java/lang/AbstractStringBuilder" (10 : Nat) "java/lang/AbstractStringBuilder")).before a0 Z = true := hw _ (List.mem_of_getElem? (i := 140) rfl)
theorem w141 {Z : State} {a0 : Array Value} (hw : ∀ d ∈ tables_1, d.before a0 Z = true) : ((Jvm.Cond.methodLink "java/lang/AbstractStringBuilder" (212 : Nat) ({ cls := "java/lang/AbstractStringBuilder", name := "append", desc := "(Ljava/lang/AbstractStringBuilder;)Ljava/lang/AbstractStringBuilder;" } : Jvm.MethodName))).before a0 Z = true := hw _ (List.mem_of_getElem? (i := 141) rfl)
theorem w142 {Z : State} {a0 : Array Value} (hw : ∀ d ∈ tables_1, d.before a0 Z = true) : ((Jvm.Cond.declares ({ cls := "java/lang/AbstractStringBuilder", name := "append", desc := "(Ljava/lang/AbstractStringBuilder;)Ljava/lang/AbstractStringBuilder;" } : Jvm.MethodName))).before a0 Z = true := hw _ (List.mem_of_getElem? (i := 142) rfl)
theorem w143 {Z : State} {a0 : Array Value} (hw : ∀ d ∈ tables_1, d.before a0 Z = true) : ((Jvm.Cond.instanceMethod ({ cls := "java/lang/AbstractStringBuilder", name := "append", desc := "(Ljava/lang/AbstractStringBuilder;)Ljava/lang/AbstractStringBuilder;" } : Jvm.MethodName))).before a0 Z = true := hw _ (List.mem_of_getElem? (i := 143) rfl)
theorem w144 {Z : State} {a0 : Array Value} (hw : ∀ d ∈ tables_1, d.before a0 Z = true) : ((Jvm.Cond.selects "java/lang/StringBuilder" ({ cls := "java/lang/AbstractStringBuilder", name := "append", desc := "(Ljava/lang/AbstractStringBuilder;)Ljava/lang/AbstractStringBuilder;" } : Jvm.MethodName) ({ cls := "java/lang/AbstractStringBuilder", name := "append", desc := "(Ljava/lang/AbstractStringBuilder;)Ljava/lang/AbstractStringBuilder;" } : Jvm.MethodName))).before a0 Z = true := hw _ (List.mem_of_getElem? (i := 144) rfl)
theorem w145 {Z : State} {a0 : Array Value} (hw : ∀ d ∈ tables_1, d.before a0 Z = true) : ((Jvm.Cond.code ({ cls := "java/lang/AbstractStringBuilder", name := "append", desc := "(Ljava/lang/AbstractStringBuilder;)Ljava/lang/AbstractStringBuilder;" } : Jvm.MethodName) jdk_68_method_24_code (3 : Nat) (Option.some (Jvm.ClassFile.FieldType.object "java/lang/AbstractStringBuilder")))).before a0 Z = true := hw _ (List.mem_of_getElem? (i := 145) rfl)
theorem w146 {Z : State} {a0 : Array Value} (hw : ∀ d ∈ tables_1, d.before a0 Z = true) : ((Jvm.Cond.methodLink "java/lang/AbstractStringBuilder" (160 : Nat) ({ cls := "java/lang/AbstractStringBuilder", name := "length", desc := "()I" } : Jvm.MethodName))).before a0 Z = true := hw _ (List.mem_of_getElem? (i := 146) rfl)
theorem w147 {Z : State} {a0 : Array Value} (hw : ∀ d ∈ tables_1, d.before a0 Z = true) : ((Jvm.Cond.declares ({ cls := "java/lang/AbstractStringBuilder", name := "length", desc := "()I" } : Jvm.MethodName))).before a0 Z = true := hw _ (List.mem_of_getElem? (i := 147) rfl)
theorem w148 {Z : State} {a0 : Array Value} (hw : ∀ d ∈ tables_1, d.before a0 Z = true) : ((Jvm.Cond.instanceMethod ({ cls := "java/lang/AbstractStringBuilder", name := "length", desc := "()I" } : Jvm.MethodName))).before a0 Z = true := hw _ (List.mem_of_getElem? (i := 148) rfl)
theorem w149 {Z : State} {a0 : Array Value} (hw : ∀ d ∈ tables_1, d.before a0 Z = true) : ((Jvm.Cond.selects "java/lang/StringBuilder" ({ cls := "java/lang/AbstractStringBuilder", name := "length", desc := "()I" } : Jvm.MethodName) ({ cls := "java/lang/StringBuilder", name := "length", desc := "()I" } : Jvm.MethodName))).before a0 Z = true := hw _ (List.mem_of_getElem? (i := 149) rfl)
theorem w150 {Z : State} {a0 : Array Value} (hw : ∀ d ∈ tables_1, d.before a0 Z = true) : ((Jvm.Cond.instanceMethod ({ cls := "java/lang/StringBuilder", name := "length", desc := "()I" } : Jvm.MethodName))).before a0 Z = true := hw _ (List.mem_of_getElem? (i := 150) rfl)
theorem w151 {Z : State} {a0 : Array Value} (hw : ∀ d ∈ tables_1, d.before a0 Z = true) : ((Jvm.Cond.code ({ cls := "java/lang/StringBuilder", name := "length", desc := "()I" } : Jvm.MethodName) jdk_67_method_93_code (1 : Nat) (Option.some Jvm.ClassFile.FieldType.int))).before a0 Z = true := hw _ (List.mem_of_getElem? (i := 151) rfl)
theorem w152 {Z : State} {a0 : Array Value} (hw : ∀ d ∈ tables_1, d.before a0 Z = true) : ((Jvm.Cond.methodLink "java/lang/StringBuilder" (343 : Nat) ({ cls := "java/lang/AbstractStringBuilder", name := "length", desc := "()I" } : Jvm.MethodName))).before a0 Z = true := hw _ (List.mem_of_getElem? (i := 152) rfl)
theorem w153 {Z : State} {a0 : Array Value} (hw : ∀ d ∈ tables_1, d.before a0 Z = true) : ((Jvm.Cond.code ({ cls := "java/lang/AbstractStringBuilder", name := "length", desc := "()I" } : Jvm.MethodName) jdk_68_method_6_code (1 : Nat) (Option.some Jvm.ClassFile.FieldType.int))).before a0 Z = true := hw _ (List.mem_of_getElem? (i := 153) rfl)
theorem w154 {Z : State} {a0 : Array Value} (hw : ∀ d ∈ tables_1, d.before a0 Z = true) : ((Jvm.Cond.methodLink "java/lang/AbstractStringBuilder" (215 : Nat) ({ cls := "java/lang/AbstractStringBuilder", name := "inflateIfNeededFor", desc := "(Ljava/lang/AbstractStringBuilder;)V" } : Jvm.MethodName))).before a0 Z = true := hw _ (List.mem_of_getElem? (i := 154) rfl)
theorem w155 {Z : State} {a0 : Array Value} (hw : ∀ d ∈ tables_1, d.before a0 Z = true) : ((Jvm.Cond.instanceMethod ({ cls := "java/lang/AbstractStringBuilder", name := "inflateIfNeededFor", desc := "(Ljava/lang/AbstractStringBuilder;)V" } : Jvm.MethodName))).before a0 Z = true := hw _ (List.mem_of_getElem? (i := 155) rfl)
theorem w156 {Z : State} {a0 : Array Value} (hw : ∀ d ∈ tables_1, d.before a0 Z = true) : ((Jvm.Cond.privateMethod ({ cls := "java/lang/AbstractStringBuilder", name := "inflateIfNeededFor", desc := "(Ljava/lang/AbstractStringBuilder;)V" } : Jvm.MethodName))).before a0 Z = true := hw _ (List.mem_of_getElem? (i := 156) rfl)
theorem w157 {Z : State} {a0 : Array Value} (hw : ∀ d ∈ tables_1, d.before a0 Z = true) : ((Jvm.Cond.selects "java/lang/StringBuilder" ({ cls := "java/lang/AbstractStringBuilder", name := "inflateIfNeededFor", desc := "(Ljava/lang/AbstractStringBuilder;)V" } : Jvm.MethodName) ({ cls := "java/lang/AbstractStringBuilder", name := "inflateIfNeededFor", desc := "(Ljava/lang/AbstractStringBuilder;)V" } : Jvm.MethodName))).before a0 Z = true := hw _ (List.mem_of_getElem? (i := 157) rfl)
theorem w158 {Z : State} {a0 : Array Value} (hw : ∀ d ∈ tables_1, d.before a0 Z = true) : ((Jvm.Cond.code ({ cls := "java/lang/AbstractStringBuilder", name := "inflateIfNeededFor", desc := "(Ljava/lang/AbstractStringBuilder;)V" } : Jvm.MethodName) jdk_68_method_72_code (2 : Nat) (Option.none : Option Jvm.ClassFile.FieldType))).before a0 Z = true := hw _ (List.mem_of_getElem? (i := 158) rfl)
theorem w159 {Z : State} {a0 : Array Value} (hw : ∀ d ∈ tables_1, d.before a0 Z = true) : ((Jvm.Cond.methodLink "java/lang/AbstractStringBuilder" (70 : Nat) ({ cls := "java/lang/AbstractStringBuilder", name := "getCoder", desc := "()B" } : Jvm.MethodName))).before a0 Z = true := hw _ (List.mem_of_getElem? (i := 159) rfl)
theorem w160 {Z : State} {a0 : Array Value} (hw : ∀ d ∈ tables_1, d.before a0 Z = true) : ((Jvm.Cond.declares ({ cls := "java/lang/AbstractStringBuilder", name := "getCoder", desc := "()B" } : Jvm.MethodName))).before a0 Z = true := hw _ (List.mem_of_getElem? (i := 160) rfl)
theorem w161 {Z : State} {a0 : Array Value} (hw : ∀ d ∈ tables_1, d.before a0 Z = true) : ((Jvm.Cond.instanceMethod ({ cls := "java/lang/AbstractStringBuilder", name := "getCoder", desc := "()B" } : Jvm.MethodName))).before a0 Z = true := hw _ (List.mem_of_getElem? (i := 161) rfl)
theorem w162 {Z : State} {a0 : Array Value} (hw : ∀ d ∈ tables_1, d.before a0 Z = true) : ((Jvm.Cond.selects "java/lang/StringBuilder" ({ cls := "java/lang/AbstractStringBuilder", name := "getCoder", desc := "()B" } : Jvm.MethodName) ({ cls := "java/lang/AbstractStringBuilder", name := "getCoder", desc := "()B" } : Jvm.MethodName))).before a0 Z = true := hw _ (List.mem_of_getElem? (i := 162) rfl)
theorem w163 {Z : State} {a0 : Array Value} (hw : ∀ d ∈ tables_1, d.before a0 Z = true) : ((Jvm.Cond.code ({ cls := "java/lang/AbstractStringBuilder", name := "getCoder", desc := "()B" } : Jvm.MethodName) jdk_68_method_67_code (1 : Nat) (Option.some Jvm.ClassFile.FieldType.byte))).before a0 Z = true := hw _ (List.mem_of_getElem? (i := 163) rfl)
theorem w164 {Z : State} {a0 : Array Value} (hw : ∀ d ∈ tables_1, d.before a0 Z = true) : ((Jvm.Cond.methodLink "java/lang/AbstractStringBuilder" (219 : Nat) ({ cls := "java/lang/AbstractStringBuilder", name := "getBytes", desc := "([BIB)V" } : Jvm.MethodName))).before a0 Z = true := hw _ (List.mem_of_getElem? (i := 164) rfl)
theorem w165 {Z : State} {a0 : Array Value} (hw : ∀ d ∈ tables_1, d.before a0 Z = true) : ((Jvm.Cond.declares ({ cls := "java/lang/AbstractStringBuilder", name := "getBytes", desc := "([BIB)V" } : Jvm.MethodName))).before a0 Z = true := hw _ (List.mem_of_getElem? (i := 165) rfl)
theorem w166 {Z : State} {a0 : Array Value} (hw : ∀ d ∈ tables_1, d.before a0 Z = true) : ((Jvm.Cond.instanceMethod ({ cls := "java/lang/AbstractStringBuilder", name := "getBytes", desc := "([BIB)V" } : Jvm.MethodName))).before a0 Z = true := hw _ (List.mem_of_getElem? (i := 166) rfl)
theorem w167 {Z : State} {a0 : Array Value} (hw : ∀ d ∈ tables_1, d.before a0 Z = true) : ((Jvm.Cond.selects "java/lang/StringBuilder" ({ cls := "java/lang/AbstractStringBuilder", name := "getBytes", desc := "([BIB)V" } : Jvm.MethodName) ({ cls := "java/lang/AbstractStringBuilder", name := "getBytes", desc := "([BIB)V" } : Jvm.MethodName))).before a0 Z = true := hw _ (List.mem_of_getElem? (i := 167) rfl)
theorem w168 {Z : State} {a0 : Array Value} (hw : ∀ d ∈ tables_1, d.before a0 Z = true) : ((Jvm.Cond.code ({ cls := "java/lang/AbstractStringBuilder", name := "getBytes", desc := "([BIB)V" } : Jvm.MethodName) jdk_68_method_65_code (4 : Nat) (Option.none : Option Jvm.ClassFile.FieldType))).before a0 Z = true := hw _ (List.mem_of_getElem? (i := 168) rfl)
theorem w169 {Z : State} {a0 : Array Value} (hw : ∀ d ∈ tables_1, d.before a0 Z = true) : ((Jvm.Cond.methodLink "java/lang/AbstractStringBuilder" (309 : Nat) ({ cls := "java/lang/System", name := "arraycopy", desc := "(Ljava/lang/Object;ILjava/lang/Object;II)V" } : Jvm.MethodName))).before a0 Z = true := hw _ (List.mem_of_getElem? (i := 169) rfl)
theorem w170 {Z : State} {a0 : Array Value} (hw : ∀ d ∈ tables_1, d.before a0 Z = true) : ((Jvm.Cond.fieldLink "java/lang/AbstractStringBuilder" (73 : Nat) "java/lang/AbstractStringBuilder" "maybeLatin1" "Z")).before a0 Z = true := hw _ (List.mem_of_getElem? (i := 170) rfl)
theorem w171 {Z : State} {a0 : Array Value} (hw : ∀ d ∈ tables_1, d.before a0 Z = true) : ((Jvm.Cond.lays "java/lang/StringBuilder" "java/lang/AbstractStringBuilder" "maybeLatin1" "Z")).before a0 Z = true := hw _ (List.mem_of_getElem? (i := 171) rfl)
theorem w172 {Z : State} {a0 : Array Value} (hw : ∀ d ∈ tables_1, d.before a0 Z = true) : ((Jvm.Cond.arrayClass Jvm.ClassFile.FieldType.char)).before a0 Z = true := hw _ (List.mem_of_getElem? (i := 172) rfl)
theorem w173 {Z : State} {a0 : Array Value} (hw : ∀ d ∈ tables_1, d.before a0 Z = true) : ((Jvm.Cond.methodLink "com/example/colophon/colophon/api/HtmlAppendPinLaw" (24 : Nat) ({ cls := "com/example/colophon/colophon/api/HtmlAppendPinLaw", name := "put", desc := "([CIC)V" } : Jvm.MethodName))).before a0 Z = true := hw _ (List.mem_of_getElem? (i := 173) rfl)
theorem w174 {Z : State} {a0 : Array Value} (hw : ∀ d ∈ tables_1, d.before a0 Z = true) : ((Jvm.Cond.static ({ cls := "com/example/colophon/colophon/api/HtmlAppendPinLaw", name := "put", desc := "([CIC)V" } : Jvm.MethodName))).before a0 Z = true := hw _ (List.mem_of_getElem? (i := 174) rfl)
theorem w175 {Z : State} {a0 : Array Value} (hw : ∀ d ∈ tables_1, d.before a0 Z = true) : ((Jvm.Cond.initialized "com/example/colophon/colophon/api/HtmlAppendPinLaw")).before a0 Z = true := hw _ (List.mem_of_getElem? (i := 175) rfl)
theorem w176 {Z : State} {a0 : Array Value} (hw : ∀ d ∈ tables_1, d.before a0 Z = true) : ((Jvm.Cond.code ({ cls := "com/example/colophon/colophon/api/HtmlAppendPinLaw", name := "put", desc := "([CIC)V" } : Jvm.MethodName) method_3_code (3 : Nat) (Option.none : Option Jvm.ClassFile.FieldType))).before a0 Z = true := hw _ (List.mem_of_getElem? (i := 176) rfl)
theorem w177 {Z : State} {a0 : Array Value} (hw : ∀ d ∈ tables_1, d.before a0 Z = true) : ((Jvm.Cond.methodLink "com/example/colophon/colophon/api/HtmlAppendPinLaw" (30 : Nat) ({ cls := "com/example/colophon/colophon/api/Html", name := "toString", desc := "()Ljava/lang/String;" } : Jvm.MethodName))).before a0 Z = true := hw _ (List.mem_of_getElem? (i := 177) rfl)
theorem w178 {Z : State} {a0 : Array Value} (hw : ∀ d ∈ tables_1, d.before a0 Z = true) : ((Jvm.Cond.declares ({ cls := "com/example/colophon/colophon/api/Html", name := "toString", desc := "()Ljava/lang/String;" } : Jvm.MethodName))).before a0 Z = true := hw _ (List.mem_of_getElem? (i := 178) rfl)
theorem w179 {Z : State} {a0 : Array Value} (hw : ∀ d ∈ tables_1, d.before a0 Z = true) : ((Jvm.Cond.instanceMethod ({ cls := "com/example/colophon/colophon/api/Html", name := "toString", desc := "()Ljava/lang/String;" } : Jvm.MethodName))).before a0 Z = true := hw _ (List.mem_of_getElem? (i := 179) rfl)
theorem w180 {Z : State} {a0 : Array Value} (hw : ∀ d ∈ tables_1, d.before a0 Z = true) : ((Jvm.Cond.selects "com/example/colophon/colophon/api/Html" ({ cls := "com/example/colophon/colophon/api/Html", name := "toString", desc := "()Ljava/lang/String;" } : Jvm.MethodName) ({ cls := "com/example/colophon/colophon/api/Html", name := "toString", desc := "()Ljava/lang/String;" } : Jvm.MethodName))).before a0 Z = true := hw _ (List.mem_of_getElem? (i := 180) rfl)
theorem w181 {Z : State} {a0 : Array Value} (hw : ∀ d ∈ tables_1, d.before a0 Z = true) : ((Jvm.Cond.code ({ cls := "com/example/colophon/colophon/api/Html", name := "toString", desc := "()Ljava/lang/String;" } : Jvm.MethodName) prog_5_method_8_code (1 : Nat) (Option.some (Jvm.ClassFile.FieldType.object "java/lang/String")))).before a0 Z = true := hw _ (List.mem_of_getElem? (i := 181) rfl)
theorem w182 {Z : State} {a0 : Array Value} (hw : ∀ d ∈ tables_1, d.before a0 Z = true) : ((Jvm.Cond.methodLink "com/example/colophon/colophon/api/Html" (62 : Nat) ({ cls := "java/lang/StringBuilder", name := "toString", desc := "()Ljava/lang/String;" } : Jvm.MethodName))).before a0 Z = true := hw _ (List.mem_of_getElem? (i := 182) rfl)
theorem w183 {Z : State} {a0 : Array Value} (hw : ∀ d ∈ tables_1, d.before a0 Z = true) : ((Jvm.Cond.declares ({ cls := "java/lang/StringBuilder", name := "toString", desc := "()Ljava/lang/String;" } : Jvm.MethodName))).before a0 Z = true := hw _ (List.mem_of_getElem? (i := 183) rfl)
theorem w184 {Z : State} {a0 : Array Value} (hw : ∀ d ∈ tables_1, d.before a0 Z = true) : ((Jvm.Cond.instanceMethod ({ cls := "java/lang/StringBuilder", name := "toString", desc := "()Ljava/lang/String;" } : Jvm.MethodName))).before a0 Z = true := hw _ (List.mem_of_getElem? (i := 184) rfl)
theorem w185 {Z : State} {a0 : Array Value} (hw : ∀ d ∈ tables_1, d.before a0 Z = true) : ((Jvm.Cond.selects "java/lang/StringBuilder" ({ cls := "java/lang/StringBuilder", name := "toString", desc := "()Ljava/lang/String;" } : Jvm.MethodName) ({ cls := "java/lang/StringBuilder", name := "toString", desc := "()Ljava/lang/String;" } : Jvm.MethodName))).before a0 Z = true := hw _ (List.mem_of_getElem? (i := 185) rfl)
theorem w186 {Z : State} {a0 : Array Value} (hw : ∀ d ∈ tables_1, d.before a0 Z = true) : ((Jvm.Cond.code ({ cls := "java/lang/StringBuilder", name := "toString", desc := "()Ljava/lang/String;" } : Jvm.MethodName) jdk_67_method_42_code (1 : Nat) (Option.some (Jvm.ClassFile.FieldType.object "java/lang/String")))).before a0 Z = true := hw _ (List.mem_of_getElem? (i := 186) rfl)
theorem w187 {Z : State} {a0 : Array Value} (hw : ∀ d ∈ tables_1, d.before a0 Z = true) : ((Jvm.Cond.classLink "java/lang/StringBuilder" (18 : Nat) "java/lang/String")).before a0 Z = true := hw _ (List.mem_of_getElem? (i := 187) rfl)
theorem w188 {Z : State} {a0 : Array Value} (hw : ∀ d ∈ tables_1, d.before a0 Z = true) : ((Jvm.Cond.methodLink "java/lang/StringBuilder" (137 : Nat) ({ cls := "java/lang/String", name := "<init>", desc := "(Ljava/lang/StringBuilder;)V" } : Jvm.MethodName))).before a0 Z = true := hw _ (List.mem_of_getElem? (i := 188) rfl)
theorem w189 {Z : State} {a0 : Array Value} (hw : ∀ d ∈ tables_1, d.before a0 Z = true) : ((Jvm.Cond.instanceMethod ({ cls := "java/lang/String", name := "<init>", desc := "(Ljava/lang/StringBuilder;)V" } : Jvm.MethodName))).before a0 Z = true := hw _ (List.mem_of_getElem? (i := 189) rfl)
theorem w190 {Z : State} {a0 : Array Value} (hw : ∀ d ∈ tables_1, d.before a0 Z = true) : ((Jvm.Cond.code ({ cls := "java/lang/String", name := "<init>", desc := "(Ljava/lang/StringBuilder;)V" } : Jvm.MethodName) jdk_42_method_53_code (2 : Nat) (Option.none : Option Jvm.ClassFile.FieldType))).before a0 Z = true := hw _ (List.mem_of_getElem? (i := 190) rfl)
theorem w191 {Z : State} {a0 : Array Value} (hw : ∀ d ∈ tables_1, d.before a0 Z = true) : ((Jvm.Cond.methodLink "java/lang/String" (489 : Nat) ({ cls := "java/lang/String", name := "<init>", desc := "(Ljava/lang/AbstractStringBuilder;Ljava/lang/Void;)V" } : Jvm.MethodName))).before a0 Z = true := hw _ (List.mem_of_getElem? (i := 191) rfl)
theorem w192 {Z : State} {a0 : Array Value} (hw : ∀ d ∈ tables_1, d.before a0 Z = true) : ((Jvm.Cond.instanceMethod ({ cls := "java/lang/String", name := "<init>", desc := "(Ljava/lang/AbstractStringBuilder;Ljava/lang/Void;)V" } : Jvm.MethodName))).before a0 Z = true := hw _ (List.mem_of_getElem? (i := 192) rfl)
theorem w193 {Z : State} {a0 : Array Value} (hw : ∀ d ∈ tables_1, d.before a0 Z = true) : ((Jvm.Cond.code ({ cls := "java/lang/String", name := "<init>", desc := "(Ljava/lang/AbstractStringBuilder;Ljava/lang/Void;)V" } : Jvm.MethodName) jdk_42_method_150_code (5 : Nat) (Option.none : Option Jvm.ClassFile.FieldType))).before a0 Z = true := hw _ (List.mem_of_getElem? (i := 193) rfl)
theorem w194 {Z : State} {a0 : Array Value} (hw : ∀ d ∈ tables_1, d.before a0 Z = true) : ((Jvm.Cond.methodLink "java/lang/String" (552 : Nat) ({ cls := "java/lang/AbstractStringBuilder", name := "getValue", desc := "()[B" } : Jvm.MethodName))).before a0 Z = true := hw _ (List.mem_of_getElem? (i := 194) rfl)
theorem w195 {Z : State} {a0 : Array Value} (hw : ∀ d ∈ tables_1, d.before a0 Z = true) : ((Jvm.Cond.declares ({ cls := "java/lang/AbstractStringBuilder", name := "getValue", desc := "()[B" } : Jvm.MethodName))).before a0 Z = true := hw _ (List.mem_of_getElem? (i := 195) rfl)
theorem w196 {Z : State} {a0 : Array Value} (hw : ∀ d ∈ tables_1, d.before a0 Z = true) : ((Jvm.Cond.instanceMethod ({ cls := "java/lang/AbstractStringBuilder", name := "getValue", desc := "()[B" } : Jvm.MethodName))).before a0 Z = true := hw _ (List.mem_of_getElem? (i := 196) rfl)
theorem w197 {Z : State} {a0 : Array Value} (hw : ∀ d ∈ tables_1, d.before a0 Z = true) : ((Jvm.Cond.selects "java/lang/StringBuilder" ({ cls := "java/lang/AbstractStringBuilder", name := "getValue", desc := "()[B" } : Jvm.MethodName) ({ cls := "java/lang/AbstractStringBuilder", name := "getValue", desc := "()[B" } : Jvm.MethodName))).before a0 Z = true := hw _ (List.mem_of_getElem? (i := 197) rfl)
theorem w198 {Z : State} {a0 : Array Value} (hw : ∀ d ∈ tables_1, d.before a0 Z = true) : ((Jvm.Cond.code ({ cls := "java/lang/AbstractStringBuilder", name := "getValue", desc := "()[B" } : Jvm.MethodName) jdk_68_method_64_code (1 : Nat) (Option.some (Jvm.ClassFile.FieldType.array Jvm.ClassFile.FieldType.byte)))).before a0 Z = true := hw _ (List.mem_of_getElem? (i := 198) rfl)
theorem w199 {Z : State} {a0 : Array Value} (hw : ∀ d ∈ tables_1, d.before a0 Z = true) : ((Jvm.Cond.methodLink "java/lang/String" (549 : Nat) ({ cls := "java/lang/AbstractStringBuilder", name := "length", desc := "()I" } : Jvm.MethodName))).before a0 Z = true := hw _ (List.mem_of_getElem? (i := 199) rfl)
theorem w200 {Z : State} {a0 : Array Value} (hw : ∀ d ∈ tables_1, d.before a0 Z = true) : ((Jvm.Cond.methodLink "java/lang/String" (1047 : Nat) ({ cls := "java/lang/AbstractStringBuilder", name := "isLatin1", desc := "()Z" } : Jvm.MethodName))).before a0 Z = true := hw _ (List.mem_of_getElem? (i := 200) rfl)
theorem w201 {Z : State} {a0 : Array Value} (hw : ∀ d ∈ tables_1, d.before a0 Z = true) : ((Jvm.Cond.methodLink "java/lang/String" (54 : Nat) ({ cls := "java/util/Arrays", name := "copyOfRange", desc := "([BII)[B" } : Jvm.MethodName))).before a0 Z = true := hw _ (List.mem_of_getElem? (i := 201) rfl)
theorem w202 {Z : State} {a0 : Array Value} (hw : ∀ d ∈ tables_1, d.before a0 Z = true) : ((Jvm.Cond.static ({ cls := "java/util/Arrays", name := "copyOfRange", desc := "([BII)[B" } : Jvm.MethodName))).before a0 Z = true := hw _ (List.mem_of_getElem? (i := 202) rfl)
theorem w203 {Z : State} {a0 : Array Value} (hw : ∀ d ∈ tables_1, d.before a0 Z = true) : ((Jvm.Cond.initialized "java/util/Arrays")).before a0 Z = true := hw _ (List.mem_of_getElem? (i := 203) rfl)
theorem w204 {Z : State} {a0 : Array Value} (hw : ∀ d ∈ tables_1, d.before a0 Z = true) : ((Jvm.Cond.code ({ cls := "java/util/Arrays", name := "copyOfRange", desc := "([BII)[B" } : Jvm.MethodName) jdk_65_method_132_code (3 : Nat) (Option.some (Jvm.ClassFile.FieldType.array Jvm.ClassFile.FieldType.byte)))).before a0 Z = true := hw _ (List.mem_of_getElem? (i := 204) rfl)
theorem w205 {Z : State} {a0 : Array Value} (hw : ∀ d ∈ tables_1, d.before a0 Z = true) : ((Jvm.Cond.methodLink "java/util/Arrays" (339 : Nat) ({ cls := "java/util/Arrays", name := "copyOfRangeByte", desc := "([BII)[B" } : Jvm.MethodName))).before a0 Z = true := hw _ (List.mem_of_getElem? (i := 205) rfl)
theorem w206 {Z : State} {a0 : Array Value} (hw : ∀ d ∈ tables_1, d.before a0 Z = true) : ((Jvm.Cond.static ({ cls := "java/util/Arrays", name := "copyOfRangeByte", desc := "([BII)[B" } : Jvm.MethodName))).before a0 Z = true := hw _ (List.mem_of_getElem? (i := 206) rfl)
theorem w207 {Z : State} {a0 : Array Value} (hw : ∀ d ∈ tables_1, d.before a0 Z = true) : ((Jvm.Cond.code ({ cls := "java/util/Arrays", name := "copyOfRangeByte", desc := "([BII)[B" } : Jvm.MethodName) jdk_65_method_133_code (5 : Nat) (Option.some (Jvm.ClassFile.FieldType.array Jvm.ClassFile.FieldType.byte)))).before a0 Z = true := hw _ (List.mem_of_getElem? (i := 207) rfl)
theorem w208 {Z : State} {a0 : Array Value} (hw : ∀ d ∈ tables_1, d.before a0 Z = true) : ((Jvm.Cond.methodLink "java/util/Arrays" (343 : Nat) ({ cls := "java/util/Arrays", name := "checkLength", desc := "(II)V" } : Jvm.MethodName))).before a0 Z = true := hw _ (List.mem_of_getElem? (i := 208) rfl)
theorem w209 {Z : State} {a0 : Array Value} (hw : ∀ d ∈ tables_1, d.before a0 Z = true) : ((Jvm.Cond.static ({ cls := "java/util/Arrays", name := "checkLength", desc := "(II)V" } : Jvm.MethodName))).before a0 Z = true := hw _ (List.mem_of_getElem? (i := 209) rfl)
theorem w210 {Z : State} {a0 : Array Value} (hw : ∀ d ∈ tables_1, d.before a0 Z = true) : ((Jvm.Cond.code ({ cls := "java/util/Arrays", name := "checkLength", desc := "(II)V" } : Jvm.MethodName) jdk_65_method_131_code (2 : Nat) (Option.none : Option Jvm.ClassFile.FieldType))).before a0 Z = true := hw _ (List.mem_of_getElem? (i := 210) rfl)
theorem w211 {Z : State} {a0 : Array Value} (hw : ∀ d ∈ tables_1, d.before a0 Z = true) : ((Jvm.Cond.methodLink "java/util/Arrays" (304 : Nat) ({ cls := "java/lang/Math", name := "min", desc := "(II)I" } : Jvm.MethodName))).before a0 Z = true := hw _ (List.mem_of_getElem? (i := 211) rfl)
theorem w212 {Z : State} {a0 : Array Value} (hw : ∀ d ∈ tables_1, d.before a0 Z = true) : ((Jvm.Cond.static ({ cls := "java/lang/Math", name := "min", desc := "(II)I" } : Jvm.MethodName))).before a0 Z = true := hw _ (List.mem_of_getElem? (i := 212) rfl)
theorem w213 {Z : State} {a0 : Array Value} (hw : ∀ d ∈ tables_1, d.before a0 Z = true) : ((Jvm.Cond.initialized "java/lang/Math")).before a0 Z = true := hw _ (List.mem_of_getElem? (i := 213) rfl)
theorem w214 {Z : State} {a0 : Array Value} (hw : ∀ d ∈ tables_1, d.before a0 Z = true) : ((Jvm.Cond.code ({ cls := "java/lang/Math", name := "min", desc := "(II)I" } : Jvm.MethodName) jdk_29_method_69_code (2 : Nat) (Option.some Jvm.ClassFile.FieldType.int))).before a0 Z = true := hw _ (List.mem_of_getElem? (i := 214) rfl)
theorem w215 {Z : State} {a0 : Array Value} (hw : ∀ d ∈ tables_1, d.before a0 Z = true) : ((Jvm.Cond.methodLink "java/util/Arrays" (150 : Nat) ({ cls := "java/lang/System", name := "arraycopy", desc := "(Ljava/lang/Object;ILjava/lang/Object;II)V" } : Jvm.MethodName))).before a0 Z = true := hw _ (List.mem_of_getElem? (i := 215) rfl)
theorem w216 {Z : State} {a0 : Array Value} (hw : ∀ d ∈ tables_1, d.before a0 Z = true) : ((Jvm.Cond.classLink "com/example/colophon/colophon/api/HtmlAppendPinLaw" (11 : Nat) "java/lang/String")).before a0 Z = true := hw _ (List.mem_of_getElem? (i := 216) rfl)
theorem w217 {Z : State} {a0 : Array Value} (hw : ∀ d ∈ tables_1, d.before a0 Z = true) : ((Jvm.Cond.methodLink "com/example/colophon/colophon/api/HtmlAppendPinLaw" (34 : Nat) ({ cls := "java/lang/String", name := "<init>", desc := "([C)V" } : Jvm.MethodName))).before a0 Z = true := hw _ (List.mem_of_getElem? (i := 217) rfl)
theorem w218 {Z : State} {a0 : Array Value} (hw : ∀ d ∈ tables_1, d.before a0 Z = true) : ((Jvm.Cond.instanceMethod ({ cls := "java/lang/String", name := "<init>", desc := "([C)V" } : Jvm.MethodName))).before a0 Z = true := hw _ (List.mem_of_getElem? (i := 218) rfl)
theorem w219 {Z : State} {a0 : Array Value} (hw : ∀ d ∈ tables_1, d.before a0 Z = true) : ((Jvm.Cond.code ({ cls := "java/lang/String", name := "<init>", desc := "([C)V" } : Jvm.MethodName) jdk_42_method_3_code (2 : Nat) (Option.none : Option Jvm.ClassFile.FieldType))).before a0 Z = true := hw _ (List.mem_of_getElem? (i := 219) rfl)
theorem w220 {Z : State} {a0 : Array Value} (hw : ∀ d ∈ tables_1, d.before a0 Z = true) : ((Jvm.Cond.methodLink "java/lang/String" (27 : Nat) ({ cls := "java/lang/String", name := "<init>", desc := "([CIILjava/lang/Void;)V" } : Jvm.MethodName))).before a0 Z = true := hw _ (List.mem_of_getElem? (i := 220) rfl)
theorem w221 {Z : State} {a0 : Array Value} (hw : ∀ d ∈ tables_1, d.before a0 Z = true) : ((Jvm.Cond.instanceMethod ({ cls := "java/lang/String", name := "<init>", desc := "([CIILjava/lang/Void;)V" } : Jvm.MethodName))).before a0 Z = true := hw _ (List.mem_of_getElem? (i := 221) rfl)
theorem w222 {Z : State} {a0 : Array Value} (hw : ∀ d ∈ tables_1, d.before a0 Z = true) : ((Jvm.Cond.code ({ cls := "java/lang/String", name := "<init>", desc := "([CIILjava/lang/Void;)V" } : Jvm.MethodName) jdk_42_method_149_code (6 : Nat) (Option.none : Option Jvm.ClassFile.FieldType))).before a0 Z = true := hw _ (List.mem_of_getElem? (i := 222) rfl)
theorem w233 {Z : State} {a0 : Array Value} (hw : ∀ d ∈ tables_1, d.before a0 Z = true) : ((Jvm.Cond.methodLink "com/example/colophon/colophon/api/HtmlAppendPinLaw" (37 : Nat) ({ cls := "java/lang/String", name := "equals", desc := "(Ljava/lang/Object;)Z" } : Jvm.MethodName))).before a0 Z = true := hw _ (List.mem_of_getElem? (i := 233) rfl)
theorem w234 {Z : State} {a0 : Array Value} (hw : ∀ d ∈ tables_1, d.before a0 Z = true) : ((Jvm.Cond.declares ({ cls := "java/lang/String", name := "equals", desc := "(Ljava/lang/Object;)Z" } : Jvm.MethodName))).before a0 Z = true := hw _ (List.mem_of_getElem? (i := 234) rfl)
theorem w235 {Z : State} {a0 : Array Value} (hw : ∀ d ∈ tables_1, d.before a0 Z = true) : ((Jvm.Cond.instanceMethod ({ cls := "java/lang/String", name := "equals", desc := "(Ljava/lang/Object;)Z" } : Jvm.MethodName))).before a0 Z = true := hw _ (List.mem_of_getElem? (i := 235) rfl)
theorem w236 {Z : State} {a0 : Array Value} (hw : ∀ d ∈ tables_1, d.before a0 Z = true) : ((Jvm.Cond.selects "java/lang/String" ({ cls := "java/lang/String", name := "equals", desc := "(Ljava/lang/Object;)Z" } : Jvm.MethodName) ({ cls := "java/lang/String", name := "equals", desc := "(Ljava/lang/Object;)Z" } : Jvm.MethodName))).before a0 Z = true := hw _ (List.mem_of_getElem? (i := 236) rfl)
theorem w237 {Z : State} {a0 : Array Value} (hw : ∀ d ∈ tables_1, d.before a0 Z = true) : ((Jvm.Cond.code ({ cls := "java/lang/String", name := "equals", desc := "(Ljava/lang/Object;)Z" } : Jvm.MethodName) jdk_42_method_66_code (3 : Nat) (Option.some Jvm.ClassFile.FieldType.boolean))).before a0 Z = true := hw _ (List.mem_of_getElem? (i := 237) rfl)
theorem w238 {Z : State} {a0 : Array Value} (hw : ∀ d ∈ tables_1, d.before a0 Z = true) : ((Jvm.Cond.methodLink "java/lang/String" (541 : Nat) ({ cls := "java/lang/StringLatin1", name := "equals", desc := "([B[B)Z" } : Jvm.MethodName))).before a0 Z = true := hw _ (List.mem_of_getElem? (i := 238) rfl)
theorem w239 {Z : State} {a0 : Array Value} (hw : ∀ d ∈ tables_1, d.before a0 Z = true) : ((Jvm.Cond.static ({ cls := "java/lang/StringLatin1", name := "equals", desc := "([B[B)Z" } : Jvm.MethodName))).before a0 Z = true := hw _ (List.mem_of_getElem? (i := 239) rfl)
theorem w240 {Z : State} {a0 : Array Value} (hw : ∀ d ∈ tables_1, d.before a0 Z = true) : ((Jvm.Cond.code ({ cls := "java/lang/StringLatin1", name := "equals", desc := "([B[B)Z" } : Jvm.MethodName) jdk_43_method_13_code (3 : Nat) (Option.some Jvm.ClassFile.FieldType.boolean))).before a0 Z = true := hw _ (List.mem_of_getElem? (i := 240) rfl)
theorem w241 {Z : State} {a0 : Array Value} (hw : ∀ d ∈ tables_1, d.before a0 Z = true) : ((Jvm.Cond.stringLink "java/lang/String" (7 : Nat) "")).before a0 Z = true := hw _ (List.mem_of_getElem? (i := 241) rfl)
theorem d1_0 : decode prog_5_method_1_code 0 = .ok (.aload_n 0, 1) := by decide +kernel
theorem d1_1 : decode prog_5_method_1_code 1 = .ok (.invokespecial 1, 3) := by decide +kernel
theorem d1_4 : decode prog_5_method_1_code 4 = .ok (.aload_n 0, 1) := by decide +kernel
theorem d1_5 : decode prog_5_method_1_code 5 = .ok (.new 7, 3) := by decide +kernel
theorem d1_8 : decode prog_5_method_1_code 8 = .ok (.dup, 1) := by decide +kernel
theorem d1_9 : decode prog_5_method_1_code 9 = .ok (.invokespecial 9, 3) := by decide +kernel
theorem d1_12 : decode prog_5_method_1_code 12 = .ok (.putfield 10, 3) := by decide +kernel
theorem d1_15 : decode prog_5_method_1_code 15 = .ok (.return_, 1) := by decide +kernel
theorem d3_0 : decode jdk_67_method_1_code 0 = .ok (.aload_n 0, 1) := by decide +kernel
theorem d3_1 : decode jdk_67_method_1_code 1 = .ok (.bipush 16, 2) := by decide +kernel
theorem d3_3 : decode jdk_67_method_1_code 3 = .ok (.invokespecial 1, 3) := by decide +kernel
theorem d3_6 : decode jdk_67_method_1_code 6 = .ok (.return_, 1) := by decide +kernel
theorem d4_0 : decode jdk_68_method_2_code 0 = .ok (.aload_n 0, 1) := by decide +kernel
theorem d4_1 : decode jdk_68_method_2_code 1 = .ok (.invokespecial 3, 3) := by decide +kernel
theorem d4_4 : decode jdk_68_method_2_code 4 = .ok (.getstatic 18, 3) := by decide +kernel
theorem d4_7 : decode jdk_68_method_2_code 7 = .ok (.ifCond .eq 18, 3) := by decide +kernel
theorem d4_10 : decode jdk_68_method_2_code 10 = .ok (.aload_n 0, 1) := by decide +kernel
theorem d4_11 : decode jdk_68_method_2_code 11 = .ok (.iload_n 1, 1) := by decide +kernel
theorem d4_12 : decode jdk_68_method_2_code 12 = .ok (.newarray .byte, 2) := by decide +kernel
theorem d4_14 : decode jdk_68_method_2_code 14 = .ok (.putfield 15, 3) := by decide +kernel
theorem d4_17 : decode jdk_68_method_2_code 17 = .ok (.aload_n 0, 1) := by decide +kernel
theorem d4_18 : decode jdk_68_method_2_code 18 = .ok (.iconst 0, 1) := by decide +kernel
theorem d4_19 : decode jdk_68_method_2_code 19 = .ok (.putfield 22, 3) := by decide +kernel
theorem d4_22 : decode jdk_68_method_2_code 22 = .ok (.goto 16, 3) := by decide +kernel
theorem d4_38 : decode jdk_68_method_2_code 38 = .ok (.return_, 1) := by decide +kernel
theorem d5_0 : decode jdk_42_method_139_code 0 = .ok (.getstatic 38, 3) := by decide +kernel
theorem d5_3 : decode jdk_42_method_139_code 3 = .ok (.ifCond .eq 23, 3) := by decide +kernel
theorem d5_6 : decode jdk_42_method_139_code 6 = .ok (.iload_n 0, 1) := by decide +kernel
theorem d5_7 : decode jdk_42_method_139_code 7 = .ok (.invokestatic 1015, 3) := by decide +kernel
theorem d5_10 : decode jdk_42_method_139_code 10 = .ok (.ifCond .eq 16, 3) := by decide +kernel
theorem d5_13 : decode jdk_42_method_139_code 13 = .ok (.new 10, 3) := by decide +kernel
theorem d5_16 : decode jdk_42_method_139_code 16 = .ok (.dup, 1) := by decide +kernel
theorem d5_17 : decode jdk_42_method_139_code 17 = .ok (.iload_n 0, 1) := by decide +kernel
theorem d5_18 : decode jdk_42_method_139_code 18 = .ok (.invokestatic 1018, 3) := by decide +kernel
theorem d5_21 : decode jdk_42_method_139_code 21 = .ok (.iconst 0, 1) := by decide +kernel
theorem d5_22 : decode jdk_42_method_139_code 22 = .ok (.invokespecial 209, 3) := by decide +kernel
theorem d5_25 : decode jdk_42_method_139_code 25 = .ok (.areturn, 1) := by decide +kernel
theorem d6_0 : decode jdk_43_method_3_code 0 = .ok (.iload_n 0, 1) := by decide +kernel
theorem d6_1 : decode jdk_43_method_3_code 1 = .ok (.sipush 255, 3) := by decide +kernel
theorem d6_4 : decode jdk_43_method_3_code 4 = .ok (.if_icmp .gt 7, 3) := by decide +kernel
theorem d6_7 : decode jdk_43_method_3_code 7 = .ok (.iconst 1, 1) := by decide +kernel
theorem d6_8 : decode jdk_43_method_3_code 8 = .ok (.goto 4, 3) := by decide +kernel
theorem d6_12 : decode jdk_43_method_3_code 12 = .ok (.ireturn, 1) := by decide +kernel
theorem d7_0 : decode jdk_43_method_46_code 0 = .ok (.iconst 1, 1) := by decide +kernel
theorem d7_1 : decode jdk_43_method_46_code 1 = .ok (.newarray .byte, 2) := by decide +kernel
theorem d7_3 : decode jdk_43_method_46_code 3 = .ok (.dup, 1) := by decide +kernel
theorem d7_4 : decode jdk_43_method_46_code 4 = .ok (.iconst 0, 1) := by decide +kernel
theorem d7_5 : decode jdk_43_method_46_code 5 = .ok (.iload_n 0, 1) := by decide +kernel
theorem d7_6 : decode jdk_43_method_46_code 6 = .ok (.i2b, 1) := by decide +kernel
theorem d7_7 : decode jdk_43_method_46_code 7 = .ok (.bastore, 1) := by decide +kernel
theorem d7_8 : decode jdk_43_method_46_code 8 = .ok (.areturn, 1) := by decide +kernel
theorem d8_0 : decode jdk_42_method_151_code 0 = .ok (.aload_n 0, 1) := by decide +kernel
theorem d8_1 : decode jdk_42_method_151_code 1 = .ok (.invokespecial 1, 3) := by decide +kernel
theorem d8_4 : decode jdk_42_method_151_code 4 = .ok (.aload_n 0, 1) := by decide +kernel
theorem d8_5 : decode jdk_42_method_151_code 5 = .ok (.aload_n 1, 1) := by decide +kernel
theorem d8_6 : decode jdk_42_method_151_code 6 = .ok (.putfield 9, 3) := by decide +kernel
theorem d8_9 : decode jdk_42_method_151_code 9 = .ok (.aload_n 0, 1) := by decide +kernel
theorem d8_10 : decode jdk_42_method_151_code 10 = .ok (.iload_n 2, 1) := by decide +kernel
theorem d8_11 : decode jdk_42_method_151_code 11 = .ok (.putfield 15, 3) := by decide +kernel
theorem d8_14 : decode jdk_42_method_151_code 14 = .ok (.return_, 1) := by decide +kernel
theorem d9_0 : decode prog_5_method_3_code 0 = .ok (.aload_n 0, 1) := by decide +kernel
theorem d9_1 : decode prog_5_method_3_code 1 = .ok (.getfield 10, 3) := by decide +kernel
theorem d9_4 : decode prog_5_method_3_code 4 = .ok (.ldc 36, 2) := by decide +kernel
theorem d9_6 : decode prog_5_method_3_code 6 = .ok (.invokevirtual 27, 3) := by decide +kernel
theorem d9_9 : decode prog_5_method_3_code 9 = .ok (.aload_n 1, 1) := by decide +kernel
theorem d9_10 : decode prog_5_method_3_code 10 = .ok (.invokevirtual 27, 3) := by decide +kernel
theorem d9_13 : decode prog_5_method_3_code 13 = .ok (.bipush 62, 2) := by decide +kernel
theorem d9_15 : decode prog_5_method_3_code 15 = .ok (.invokevirtual 23, 3) := by decide +kernel
theorem d9_18 : decode prog_5_method_3_code 18 = .ok (.pop, 1) := by decide +kernel
theorem d9_19 : decode prog_5_method_3_code 19 = .ok (.aload_n 0, 1) := by decide +kernel
theorem d9_20 : decode prog_5_method_3_code 20 = .ok (.areturn, 1) := by decide +kernel
theorem d10_0 : decode jdk_67_method_7_code 0 = .ok (.aload_n 0, 1) := by decide +kernel
theorem d10_1 : decode jdk_67_method_7_code 1 = .ok (.aload_n 1, 1) := by decide +kernel
theorem d10_2 : decode jdk_67_method_7_code 2 = .ok (.invokespecial 29, 3) := by decide +kernel
theorem d10_5 : decode jdk_67_method_7_code 5 = .ok (.pop, 1) := by decide +kernel
theorem d10_6 : decode jdk_67_method_7_code 6 = .ok (.aload_n 0, 1) := by decide +kernel
theorem d10_7 : decode jdk_67_method_7_code 7 = .ok (.areturn, 1) := by decide +kernel
theorem d11_0 : decode jdk_68_method_22_code 0 = .ok (.aload_n 1, 1) := by decide +kernel
theorem d11_1 : decode jdk_68_method_22_code 1 = .ok (.ifnonnull 8, 3) := by decide +kernel
theorem d11_9 : decode jdk_68_method_22_code 9 = .ok (.aload_n 1, 1) := by decide +kernel
theorem d11_10 : decode jdk_68_method_22_code 10 = .ok (.invokevirtual 32, 3) := by decide +kernel
theorem d11_13 : decode jdk_68_method_22_code 13 = .ok (.istore_n 2, 1) := by decide +kernel
theorem d11_14 : decode jdk_68_method_22_code 14 = .ok (.aload_n 0, 1) := by decide +kernel
theorem d11_15 : decode jdk_68_method_22_code 15 = .ok (.aload_n 0, 1) := by decide +kernel
theorem d11_16 : decode jdk_68_method_22_code 16 = .ok (.getfield 79, 3) := by decide +kernel
theorem d11_19 : decode jdk_68_method_22_code 19 = .ok (.iload_n 2, 1) := by decide +kernel
theorem d11_20 : decode jdk_68_method_22_code 20 = .ok (.iadd, 1) := by decide +kernel
theorem d11_21 : decode jdk_68_method_22_code 21 = .ok (.invokevirtual 100, 3) := by decide +kernel
theorem d11_24 : decode jdk_68_method_22_code 24 = .ok (.aload_n 0, 1) := by decide +kernel
theorem d11_25 : decode jdk_68_method_22_code 25 = .ok (.aload_n 0, 1) := by decide +kernel
theorem d11_26 : decode jdk_68_method_22_code 26 = .ok (.getfield 79, 3) := by decide +kernel
theorem d11_29 : decode jdk_68_method_22_code 29 = .ok (.aload_n 1, 1) := by decide +kernel
theorem d11_30 : decode jdk_68_method_22_code 30 = .ok (.invokevirtual 208, 3) := by decide +kernel
theorem d11_33 : decode jdk_68_method_22_code 33 = .ok (.aload_n 0, 1) := by decide +kernel
theorem d11_34 : decode jdk_68_method_22_code 34 = .ok (.dup, 1) := by decide +kernel
theorem d11_35 : decode jdk_68_method_22_code 35 = .ok (.getfield 79, 3) := by decide +kernel
theorem d11_38 : decode jdk_68_method_22_code 38 = .ok (.iload_n 2, 1) := by decide +kernel
theorem d11_39 : decode jdk_68_method_22_code 39 = .ok (.iadd, 1) := by decide +kernel
theorem d11_40 : decode jdk_68_method_22_code 40 = .ok (.putfield 79, 3) := by decide +kernel
theorem d11_43 : decode jdk_68_method_22_code 43 = .ok (.aload_n 0, 1) := by decide +kernel
theorem d11_44 : decode jdk_68_method_22_code 44 = .ok (.areturn, 1) := by decide +kernel
theorem d12_0 : decode jdk_42_method_54_code 0 = .ok (.aload_n 0, 1) := by decide +kernel
theorem d12_1 : decode jdk_42_method_54_code 1 = .ok (.getfield 9, 3) := by decide +kernel
theorem d12_4 : decode jdk_42_method_54_code 4 = .ok (.arraylength, 1) := by decide +kernel
theorem d12_5 : decode jdk_42_method_54_code 5 = .ok (.aload_n 0, 1) := by decide +kernel
theorem d12_6 : decode jdk_42_method_54_code 6 = .ok (.invokevirtual 335, 3) := by decide +kernel
theorem d12_9 : decode jdk_42_method_54_code 9 = .ok (.ishr, 1) := by decide +kernel
theorem d12_10 : decode jdk_42_method_54_code 10 = .ok (.ireturn, 1) := by decide +kernel
theorem d13_0 : decode jdk_42_method_152_code 0 = .ok (.getstatic 38, 3) := by decide +kernel
theorem d13_3 : decode jdk_42_method_152_code 3 = .ok (.ifCond .eq 10, 3) := by decide +kernel
theorem d13_6 : decode jdk_42_method_152_code 6 = .ok (.aload_n 0, 1) := by decide +kernel
theorem d13_7 : decode jdk_42_method_152_code 7 = .ok (.getfield 15, 3) := by decide +kernel
theorem d13_10 : decode jdk_42_method_152_code 10 = .ok (.goto 4, 3) := by decide +kernel
theorem d13_14 : decode jdk_42_method_152_code 14 = .ok (.ireturn, 1) := by decide +kernel
theorem d14_0 : decode jdk_68_method_9_code 0 = .ok (.aload_n 0, 1) := by decide +kernel
theorem d14_1 : decode jdk_68_method_9_code 1 = .ok (.getfield 15, 3) := by decide +kernel
theorem d14_4 : decode jdk_68_method_9_code 4 = .ok (.arraylength, 1) := by decide +kernel
theorem d14_5 : decode jdk_68_method_9_code 5 = .ok (.aload_n 0, 1) := by decide +kernel
theorem d14_6 : decode jdk_68_method_9_code 6 = .ok (.getfield 22, 3) := by decide +kernel
theorem d14_9 : decode jdk_68_method_9_code 9 = .ok (.ishr, 1) := by decide +kernel
theorem d14_10 : decode jdk_68_method_9_code 10 = .ok (.istore_n 2, 1) := by decide +kernel
theorem d14_11 : decode jdk_68_method_9_code 11 = .ok (.iload_n 1, 1) := by decide +kernel
theorem d14_12 : decode jdk_68_method_9_code 12 = .ok (.iload_n 2, 1) := by decide +kernel
theorem d14_13 : decode jdk_68_method_9_code 13 = .ok (.isub, 1) := by decide +kernel
theorem d14_14 : decode jdk_68_method_9_code 14 = .ok (.ifCond .le 24, 3) := by decide +kernel
theorem d14_38 : decode jdk_68_method_9_code 38 = .ok (.return_, 1) := by decide +kernel
theorem d15_0 : decode jdk_68_method_73_code 0 = .ok (.aload_n 0, 1) := by decide +kernel
theorem d15_1 : decode jdk_68_method_73_code 1 = .ok (.aload_n 2, 1) := by decide +kernel
theorem d15_2 : decode jdk_68_method_73_code 2 = .ok (.invokevirtual 397, 3) := by decide +kernel
theorem d15_5 : decode jdk_68_method_73_code 5 = .ok (.aload_n 2, 1) := by decide +kernel
theorem d15_6 : decode jdk_68_method_73_code 6 = .ok (.aload_n 0, 1) := by decide +kernel
theorem d15_7 : decode jdk_68_method_73_code 7 = .ok (.getfield 15, 3) := by decide +kernel
theorem d15_10 : decode jdk_68_method_73_code 10 = .ok (.iload_n 1, 1) := by decide +kernel
theorem d15_11 : decode jdk_68_method_73_code 11 = .ok (.aload_n 0, 1) := by decide +kernel
theorem d15_12 : decode jdk_68_method_73_code 12 = .ok (.getfield 22, 3) := by decide +kernel
theorem d15_15 : decode jdk_68_method_73_code 15 = .ok (.invokevirtual 399, 3) := by decide +kernel
theorem d15_18 : decode jdk_68_method_73_code 18 = .ok (.return_, 1) := by decide +kernel
theorem d16_0 : decode jdk_68_method_71_code 0 = .ok (.getstatic 18, 3) := by decide +kernel
theorem d16_3 : decode jdk_68_method_71_code 3 = .ok (.ifCond .eq 18, 3) := by decide +kernel
theorem d16_6 : decode jdk_68_method_71_code 6 = .ok (.aload_n 0, 1) := by decide +kernel
theorem d16_7 : decode jdk_68_method_71_code 7 = .ok (.getfield 22, 3) := by decide +kernel
theorem d16_10 : decode jdk_68_method_71_code 10 = .ok (.aload_n 1, 1) := by decide +kernel
theorem d16_11 : decode jdk_68_method_71_code 11 = .ok (.invokevirtual 40, 3) := by decide +kernel
theorem d16_14 : decode jdk_68_method_71_code 14 = .ok (.if_icmp .eq 7, 3) := by decide +kernel
theorem d16_21 : decode jdk_68_method_71_code 21 = .ok (.return_, 1) := by decide +kernel
theorem d17_0 : decode jdk_42_method_147_code 0 = .ok (.aload_n 0, 1) := by decide +kernel
theorem d17_1 : decode jdk_42_method_147_code 1 = .ok (.invokevirtual 335, 3) := by decide +kernel
theorem d17_4 : decode jdk_42_method_147_code 4 = .ok (.iload_n 3, 1) := by decide +kernel
theorem d17_5 : decode jdk_42_method_147_code 5 = .ok (.if_icmp .ne 23, 3) := by decide +kernel
theorem d17_8 : decode jdk_42_method_147_code 8 = .ok (.aload_n 0, 1) := by decide +kernel
theorem d17_9 : decode jdk_42_method_147_code 9 = .ok (.getfield 9, 3) := by decide +kernel
theorem d17_12 : decode jdk_42_method_147_code 12 = .ok (.iconst 0, 1) := by decide +kernel
theorem d17_13 : decode jdk_42_method_147_code 13 = .ok (.aload_n 1, 1) := by decide +kernel
theorem d17_14 : decode jdk_42_method_147_code 14 = .ok (.iload_n 2, 1) := by decide +kernel
theorem d17_15 : decode jdk_42_method_147_code 15 = .ok (.iload_n 3, 1) := by decide +kernel
theorem d17_16 : decode jdk_42_method_147_code 16 = .ok (.ishl, 1) := by decide +kernel
theorem d17_17 : decode jdk_42_method_147_code 17 = .ok (.aload_n 0, 1) := by decide +kernel
theorem d17_18 : decode jdk_42_method_147_code 18 = .ok (.getfield 9, 3) := by decide +kernel
theorem d17_21 : decode jdk_42_method_147_code 21 = .ok (.arraylength, 1) := by decide +kernel
theorem d17_22 : decode jdk_42_method_147_code 22 = .ok (.invokestatic 212, 3) := by decide +kernel
theorem d17_25 : decode jdk_42_method_147_code 25 = .ok (.goto 18, 3) := by decide +kernel
theorem d17_43 : decode jdk_42_method_147_code 43 = .ok (.return_, 1) := by decide +kernel
theorem d18_0 : decode jdk_67_method_14_code 0 = .ok (.aload_n 0, 1) := by decide +kernel
theorem d18_1 : decode jdk_67_method_14_code 1 = .ok (.iload_n 1, 1) := by decide +kernel
theorem d18_2 : decode jdk_67_method_14_code 2 = .ok (.invokespecial 50, 3) := by decide +kernel
theorem d18_5 : decode jdk_67_method_14_code 5 = .ok (.pop, 1) := by decide +kernel
theorem d18_6 : decode jdk_67_method_14_code 6 = .ok (.aload_n 0, 1) := by decide +kernel
theorem d18_7 : decode jdk_67_method_14_code 7 = .ok (.areturn, 1) := by decide +kernel
theorem d19_0 : decode jdk_68_method_31_code 0 = .ok (.aload_n 0, 1) := by decide +kernel
theorem d19_1 : decode jdk_68_method_31_code 1 = .ok (.aload_n 0, 1) := by decide +kernel
theorem d19_2 : decode jdk_68_method_31_code 2 = .ok (.getfield 79, 3) := by decide +kernel
theorem d19_5 : decode jdk_68_method_31_code 5 = .ok (.iconst 1, 1) := by decide +kernel
theorem d19_6 : decode jdk_68_method_31_code 6 = .ok (.iadd, 1) := by decide +kernel
theorem d19_7 : decode jdk_68_method_31_code 7 = .ok (.invokevirtual 100, 3) := by decide +kernel
theorem d19_10 : decode jdk_68_method_31_code 10 = .ok (.aload_n 0, 1) := by decide +kernel
theorem d19_11 : decode jdk_68_method_31_code 11 = .ok (.invokevirtual 83, 3) := by decide +kernel
theorem d19_14 : decode jdk_68_method_31_code 14 = .ok (.ifCond .eq 31, 3) := by decide +kernel
theorem d19_17 : decode jdk_68_method_31_code 17 = .ok (.iload_n 1, 1) := by decide +kernel
theorem d19_18 : decode jdk_68_method_31_code 18 = .ok (.invokestatic 191, 3) := by decide +kernel
theorem d19_21 : decode jdk_68_method_31_code 21 = .ok (.ifCond .eq 24, 3) := by decide +kernel
theorem d19_24 : decode jdk_68_method_31_code 24 = .ok (.aload_n 0, 1) := by decide +kernel
theorem d19_25 : decode jdk_68_method_31_code 25 = .ok (.getfield 15, 3) := by decide +kernel
theorem d19_28 : decode jdk_68_method_31_code 28 = .ok (.aload_n 0, 1) := by decide +kernel
theorem d19_29 : decode jdk_68_method_31_code 29 = .ok (.dup, 1) := by decide +kernel
theorem d19_30 : decode jdk_68_method_31_code 30 = .ok (.getfield 79, 3) := by decide +kernel
theorem d19_33 : decode jdk_68_method_31_code 33 = .ok (.dup_x1, 1) := by decide +kernel
theorem d19_34 : decode jdk_68_method_31_code 34 = .ok (.iconst 1, 1) := by decide +kernel
theorem d19_35 : decode jdk_68_method_31_code 35 = .ok (.iadd, 1) := by decide +kernel
theorem d19_36 : decode jdk_68_method_31_code 36 = .ok (.putfield 79, 3) := by decide +kernel
theorem d19_39 : decode jdk_68_method_31_code 39 = .ok (.iload_n 1, 1) := by decide +kernel
theorem d19_40 : decode jdk_68_method_31_code 40 = .ok (.i2b, 1) := by decide +kernel
theorem d19_41 : decode jdk_68_method_31_code 41 = .ok (.bastore, 1) := by decide +kernel
theorem d19_42 : decode jdk_68_method_31_code 42 = .ok (.goto 33, 3) := by decide +kernel
theorem d19_75 : decode jdk_68_method_31_code 75 = .ok (.aload_n 0, 1) := by decide +kernel
theorem d19_76 : decode jdk_68_method_31_code 76 = .ok (.areturn, 1) := by decide +kernel
theorem d20_0 : decode jdk_68_method_68_code 0 = .ok (.getstatic 18, 3) := by decide +kernel
theorem d20_3 : decode jdk_68_method_68_code 3 = .ok (.ifCond .eq 14, 3) := by decide +kernel
theorem d20_6 : decode jdk_68_method_68_code 6 = .ok (.aload_n 0, 1) := by decide +kernel
theorem d20_7 : decode jdk_68_method_68_code 7 = .ok (.getfield 22, 3) := by decide +kernel
theorem d20_10 : decode jdk_68_method_68_code 10 = .ok (.ifCond .ne 7, 3) := by decide +kernel
theorem d20_13 : decode jdk_68_method_68_code 13 = .ok (.iconst 1, 1) := by decide +kernel
theorem d20_14 : decode jdk_68_method_68_code 14 = .ok (.goto 4, 3) := by decide +kernel
theorem d20_18 : decode jdk_68_method_68_code 18 = .ok (.ireturn, 1) := by decide +kernel
theorem d21_0 : decode prog_5_method_7_code 0 = .ok (.aload_n 0, 1) := by decide +kernel
theorem d21_1 : decode prog_5_method_7_code 1 = .ok (.getfield 10, 3) := by decide +kernel
theorem d21_4 : decode prog_5_method_7_code 4 = .ok (.aload_n 1, 1) := by decide +kernel
theorem d21_5 : decode prog_5_method_7_code 5 = .ok (.getfield 10, 3) := by decide +kernel
theorem d21_8 : decode prog_5_method_7_code 8 = .ok (.invokevirtual 59, 3) := by decide +kernel
theorem d21_11 : decode prog_5_method_7_code 11 = .ok (.pop, 1) := by decide +kernel
theorem d21_12 : decode prog_5_method_7_code 12 = .ok (.aload_n 0, 1) := by decide +kernel
theorem d21_13 : decode prog_5_method_7_code 13 = .ok (.areturn, 1) := by decide +kernel
theorem d22_0 : decode jdk_67_method_9_code 0 = .ok (.aload_n 0, 1) := by decide +kernel
theorem d22_1 : decode jdk_67_method_9_code 1 = .ok (.aload_n 1, 1) := by decide +kernel
theorem d22_2 : decode jdk_67_method_9_code 2 = .ok (.invokespecial 35, 3) := by decide +kernel
theorem d22_5 : decode jdk_67_method_9_code 5 = .ok (.pop, 1) := by decide +kernel
theorem d22_6 : decode jdk_67_method_9_code 6 = .ok (.aload_n 0, 1) := by decide +kernel
theorem d22_7 : decode jdk_67_method_9_code 7 = .ok (.areturn, 1) := by decide +kernel
theorem d23_0 : decode jdk_68_method_25_code 0 = .ok (.aload_n 1, 1) := by decide +kernel
theorem d23_1 : decode jdk_68_method_25_code 1 = .ok (.ifnonnull 8, 3) := by decide +kernel
theorem d23_9 : decode jdk_68_method_25_code 9 = .ok (.aload_n 1, 1) := by decide +kernel
theorem d23_10 : decode jdk_68_method_25_code 10 = .ok (.instanceof 1, 3) := by decide +kernel
theorem d23_13 : decode jdk_68_method_25_code 13 = .ok (.ifCond .eq 12, 3) := by decide +kernel
theorem d23_25 : decode jdk_68_method_25_code 25 = .ok (.aload_n 1, 1) := by decide +kernel
theorem d23_26 : decode jdk_68_method_25_code 26 = .ok (.instanceof 10, 3) := by decide +kernel
theorem d23_29 : decode jdk_68_method_25_code 29 = .ok (.ifCond .eq 12, 3) := by decide +kernel
theorem d23_32 : decode jdk_68_method_25_code 32 = .ok (.aload_n 0, 1) := by decide +kernel
theorem d23_33 : decode jdk_68_method_25_code 33 = .ok (.aload_n 1, 1) := by decide +kernel
theorem d23_34 : decode jdk_68_method_25_code 34 = .ok (.checkcast 10, 3) := by decide +kernel
theorem d23_37 : decode jdk_68_method_25_code 37 = .ok (.invokevirtual 212, 3) := by decide +kernel
theorem d23_40 : decode jdk_68_method_25_code 40 = .ok (.areturn, 1) := by decide +kernel
theorem d24_0 : decode jdk_68_method_24_code 0 = .ok (.aload_n 1, 1) := by decide +kernel
theorem d24_1 : decode jdk_68_method_24_code 1 = .ok (.ifnonnull 8, 3) := by decide +kernel
theorem d24_9 : decode jdk_68_method_24_code 9 = .ok (.aload_n 1, 1) := by decide +kernel
theorem d24_10 : decode jdk_68_method_24_code 10 = .ok (.invokevirtual 160, 3) := by decide +kernel
theorem d24_13 : decode jdk_68_method_24_code 13 = .ok (.istore_n 2, 1) := by decide +kernel
theorem d24_14 : decode jdk_68_method_24_code 14 = .ok (.aload_n 0, 1) := by decide +kernel
theorem d24_15 : decode jdk_68_method_24_code 15 = .ok (.aload_n 0, 1) := by decide +kernel
theorem d24_16 : decode jdk_68_method_24_code 16 = .ok (.getfield 79, 3) := by decide +kernel
theorem d24_19 : decode jdk_68_method_24_code 19 = .ok (.iload_n 2, 1) := by decide +kernel
theorem d24_20 : decode jdk_68_method_24_code 20 = .ok (.iadd, 1) := by decide +kernel
theorem d24_21 : decode jdk_68_method_24_code 21 = .ok (.invokevirtual 100, 3) := by decide +kernel
theorem d24_24 : decode jdk_68_method_24_code 24 = .ok (.aload_n 0, 1) := by decide +kernel
theorem d24_25 : decode jdk_68_method_24_code 25 = .ok (.aload_n 1, 1) := by decide +kernel
theorem d24_26 : decode jdk_68_method_24_code 26 = .ok (.invokevirtual 215, 3) := by decide +kernel
theorem d24_29 : decode jdk_68_method_24_code 29 = .ok (.aload_n 1, 1) := by decide +kernel
theorem d24_30 : decode jdk_68_method_24_code 30 = .ok (.aload_n 0, 1) := by decide +kernel
theorem d24_31 : decode jdk_68_method_24_code 31 = .ok (.getfield 15, 3) := by decide +kernel
theorem d24_34 : decode jdk_68_method_24_code 34 = .ok (.aload_n 0, 1) := by decide +kernel
theorem d24_35 : decode jdk_68_method_24_code 35 = .ok (.getfield 79, 3) := by decide +kernel
theorem d24_38 : decode jdk_68_method_24_code 38 = .ok (.aload_n 0, 1) := by decide +kernel
theorem d24_39 : decode jdk_68_method_24_code 39 = .ok (.getfield 22, 3) := by decide +kernel
theorem d24_42 : decode jdk_68_method_24_code 42 = .ok (.invokevirtual 219, 3) := by decide +kernel
theorem d24_45 : decode jdk_68_method_24_code 45 = .ok (.aload_n 0, 1) := by decide +kernel
theorem d24_46 : decode jdk_68_method_24_code 46 = .ok (.dup, 1) := by decide +kernel
theorem d24_47 : decode jdk_68_method_24_code 47 = .ok (.getfield 79, 3) := by decide +kernel
theorem d24_50 : decode jdk_68_method_24_code 50 = .ok (.iload_n 2, 1) := by decide +kernel
theorem d24_51 : decode jdk_68_method_24_code 51 = .ok (.iadd, 1) := by decide +kernel
theorem d24_52 : decode jdk_68_method_24_code 52 = .ok (.putfield 79, 3) := by decide +kernel
theorem d24_55 : decode jdk_68_method_24_code 55 = .ok (.aload_n 0, 1) := by decide +kernel
theorem d24_56 : decode jdk_68_method_24_code 56 = .ok (.dup, 1) := by decide +kernel
theorem d24_57 : decode jdk_68_method_24_code 57 = .ok (.getfield 73, 3) := by decide +kernel
theorem d24_60 : decode jdk_68_method_24_code 60 = .ok (.aload_n 1, 1) := by decide +kernel
theorem d24_61 : decode jdk_68_method_24_code 61 = .ok (.getfield 73, 3) := by decide +kernel
theorem d24_64 : decode jdk_68_method_24_code 64 = .ok (.ior, 1) := by decide +kernel
theorem d24_65 : decode jdk_68_method_24_code 65 = .ok (.putfield 73, 3) := by decide +kernel
theorem d24_68 : decode jdk_68_method_24_code 68 = .ok (.aload_n 0, 1) := by decide +kernel
theorem d24_69 : decode jdk_68_method_24_code 69 = .ok (.areturn, 1) := by decide +kernel
theorem d25_0 : decode jdk_67_method_93_code 0 = .ok (.aload_n 0, 1) := by decide +kernel
theorem d25_1 : decode jdk_67_method_93_code 1 = .ok (.invokespecial 343, 3) := by decide +kernel
theorem d25_4 : decode jdk_67_method_93_code 4 = .ok (.ireturn, 1) := by decide +kernel
theorem d26_0 : decode jdk_68_method_6_code 0 = .ok (.aload_n 0, 1) := by decide +kernel
theorem d26_1 : decode jdk_68_method_6_code 1 = .ok (.getfield 79, 3) := by decide +kernel
theorem d26_4 : decode jdk_68_method_6_code 4 = .ok (.ireturn, 1) := by decide +kernel
theorem d27_0 : decode jdk_68_method_72_code 0 = .ok (.getstatic 18, 3) := by decide +kernel
theorem d27_3 : decode jdk_68_method_72_code 3 = .ok (.ifCond .eq 18, 3) := by decide +kernel
theorem d27_6 : decode jdk_68_method_72_code 6 = .ok (.aload_n 0, 1) := by decide +kernel
theorem d27_7 : decode jdk_68_method_72_code 7 = .ok (.getfield 22, 3) := by decide +kernel
theorem d27_10 : decode jdk_68_method_72_code 10 = .ok (.aload_n 1, 1) := by decide +kernel
theorem d27_11 : decode jdk_68_method_72_code 11 = .ok (.invokevirtual 70, 3) := by decide +kernel
theorem d27_14 : decode jdk_68_method_72_code 14 = .ok (.if_icmp .eq 7, 3) := by decide +kernel
theorem d27_21 : decode jdk_68_method_72_code 21 = .ok (.return_, 1) := by decide +kernel
theorem d28_0 : decode jdk_68_method_67_code 0 = .ok (.getstatic 18, 3) := by decide +kernel
theorem d28_3 : decode jdk_68_method_67_code 3 = .ok (.ifCond .eq 10, 3) := by decide +kernel
theorem d28_6 : decode jdk_68_method_67_code 6 = .ok (.aload_n 0, 1) := by decide +kernel
theorem d28_7 : decode jdk_68_method_67_code 7 = .ok (.getfield 22, 3) := by decide +kernel
theorem d28_10 : decode jdk_68_method_67_code 10 = .ok (.goto 4, 3) := by decide +kernel
theorem d28_14 : decode jdk_68_method_67_code 14 = .ok (.ireturn, 1) := by decide +kernel
theorem d29_0 : decode jdk_68_method_65_code 0 = .ok (.aload_n 0, 1) := by decide +kernel
theorem d29_1 : decode jdk_68_method_65_code 1 = .ok (.getfield 22, 3) := by decide +kernel
theorem d29_4 : decode jdk_68_method_65_code 4 = .ok (.iload_n 3, 1) := by decide +kernel
theorem d29_5 : decode jdk_68_method_65_code 5 = .ok (.if_icmp .ne 24, 3) := by decide +kernel
theorem d29_8 : decode jdk_68_method_65_code 8 = .ok (.aload_n 0, 1) := by decide +kernel
theorem d29_9 : decode jdk_68_method_65_code 9 = .ok (.getfield 15, 3) := by decide +kernel
theorem d29_12 : decode jdk_68_method_65_code 12 = .ok (.iconst 0, 1) := by decide +kernel
theorem d29_13 : decode jdk_68_method_65_code 13 = .ok (.aload_n 1, 1) := by decide +kernel
theorem d29_14 : decode jdk_68_method_65_code 14 = .ok (.iload_n 2, 1) := by decide +kernel
theorem d29_15 : decode jdk_68_method_65_code 15 = .ok (.iload_n 3, 1) := by decide +kernel
theorem d29_16 : decode jdk_68_method_65_code 16 = .ok (.ishl, 1) := by decide +kernel
theorem d29_17 : decode jdk_68_method_65_code 17 = .ok (.aload_n 0, 1) := by decide +kernel
theorem d29_18 : decode jdk_68_method_65_code 18 = .ok (.getfield 79, 3) := by decide +kernel
theorem d29_21 : decode jdk_68_method_65_code 21 = .ok (.iload_n 3, 1) := by decide +kernel
theorem d29_22 : decode jdk_68_method_65_code 22 = .ok (.ishl, 1) := by decide +kernel
theorem d29_23 : decode jdk_68_method_65_code 23 = .ok (.invokestatic 309, 3) := by decide +kernel
theorem d29_26 : decode jdk_68_method_65_code 26 = .ok (.goto 17, 3) := by decide +kernel
theorem d29_43 : decode jdk_68_method_65_code 43 = .ok (.return_, 1) := by decide +kernel
theorem d30_0 : decode method_3_code 0 = .ok (.aload_n 0, 1) := by decide +kernel
theorem d30_1 : decode method_3_code 1 = .ok (.iload_n 1, 1) := by decide +kernel
theorem d30_2 : decode method_3_code 2 = .ok (.bipush 60, 2) := by decide +kernel
theorem d30_4 : decode method_3_code 4 = .ok (.castore, 1) := by decide +kernel
theorem d30_5 : decode method_3_code 5 = .ok (.aload_n 0, 1) := by decide +kernel
theorem d30_6 : decode method_3_code 6 = .ok (.iload_n 1, 1) := by decide +kernel
theorem d30_7 : decode method_3_code 7 = .ok (.iconst 1, 1) := by decide +kernel
theorem d30_8 : decode method_3_code 8 = .ok (.iadd, 1) := by decide +kernel
theorem d30_9 : decode method_3_code 9 = .ok (.bipush 47, 2) := by decide +kernel
theorem d30_11 : decode method_3_code 11 = .ok (.castore, 1) := by decide +kernel
theorem d30_12 : decode method_3_code 12 = .ok (.aload_n 0, 1) := by decide +kernel
theorem d30_13 : decode method_3_code 13 = .ok (.iload_n 1, 1) := by decide +kernel
theorem d30_14 : decode method_3_code 14 = .ok (.iconst 2, 1) := by decide +kernel
theorem d30_15 : decode method_3_code 15 = .ok (.iadd, 1) := by decide +kernel
theorem d30_16 : decode method_3_code 16 = .ok (.iload_n 2, 1) := by decide +kernel
theorem d30_17 : decode method_3_code 17 = .ok (.castore, 1) := by decide +kernel
theorem d30_18 : decode method_3_code 18 = .ok (.aload_n 0, 1) := by decide +kernel
theorem d30_19 : decode method_3_code 19 = .ok (.iload_n 1, 1) := by decide +kernel
theorem d30_20 : decode method_3_code 20 = .ok (.iconst 3, 1) := by decide +kernel
theorem d30_21 : decode method_3_code 21 = .ok (.iadd, 1) := by decide +kernel
theorem d30_22 : decode method_3_code 22 = .ok (.bipush 62, 2) := by decide +kernel
theorem d30_24 : decode method_3_code 24 = .ok (.castore, 1) := by decide +kernel
theorem d30_25 : decode method_3_code 25 = .ok (.return_, 1) := by decide +kernel
theorem d31_0 : decode prog_5_method_8_code 0 = .ok (.aload_n 0, 1) := by decide +kernel
theorem d31_1 : decode prog_5_method_8_code 1 = .ok (.getfield 10, 3) := by decide +kernel
theorem d31_4 : decode prog_5_method_8_code 4 = .ok (.invokevirtual 62, 3) := by decide +kernel
theorem d31_7 : decode prog_5_method_8_code 7 = .ok (.areturn, 1) := by decide +kernel
theorem d32_0 : decode jdk_67_method_42_code 0 = .ok (.new 18, 3) := by decide +kernel
theorem d32_3 : decode jdk_67_method_42_code 3 = .ok (.dup, 1) := by decide +kernel
theorem d32_4 : decode jdk_67_method_42_code 4 = .ok (.aload_n 0, 1) := by decide +kernel
theorem d32_5 : decode jdk_67_method_42_code 5 = .ok (.invokespecial 137, 3) := by decide +kernel
theorem d32_8 : decode jdk_67_method_42_code 8 = .ok (.areturn, 1) := by decide +kernel
theorem d33_0 : decode jdk_42_method_53_code 0 = .ok (.aload_n 0, 1) := by decide +kernel
theorem d33_1 : decode jdk_42_method_53_code 1 = .ok (.aload_n 1, 1) := by decide +kernel
theorem d33_2 : decode jdk_42_method_53_code 2 = .ok (.aconst_null, 1) := by decide +kernel
theorem d33_3 : decode jdk_42_method_53_code 3 = .ok (.invokespecial 489, 3) := by decide +kernel
theorem d33_6 : decode jdk_42_method_53_code 6 = .ok (.return_, 1) := by decide +kernel
theorem d34_0 : decode jdk_42_method_150_code 0 = .ok (.aload_n 0, 1) := by decide +kernel
theorem d34_1 : decode jdk_42_method_150_code 1 = .ok (.invokespecial 1, 3) := by decide +kernel
theorem d34_4 : decode jdk_42_method_150_code 4 = .ok (.aload_n 1, 1) := by decide +kernel
theorem d34_5 : decode jdk_42_method_150_code 5 = .ok (.invokevirtual 552, 3) := by decide +kernel
theorem d34_8 : decode jdk_42_method_150_code 8 = .ok (.astore_n 3, 1) := by decide +kernel
theorem d34_9 : decode jdk_42_method_150_code 9 = .ok (.aload_n 1, 1) := by decide +kernel
theorem d34_10 : decode jdk_42_method_150_code 10 = .ok (.invokevirtual 549, 3) := by decide +kernel
theorem d34_13 : decode jdk_42_method_150_code 13 = .ok (.istore 4, 2) := by decide +kernel
theorem d34_15 : decode jdk_42_method_150_code 15 = .ok (.aload_n 1, 1) := by decide +kernel
theorem d34_16 : decode jdk_42_method_150_code 16 = .ok (.invokevirtual 1047, 3) := by decide +kernel
theorem d34_19 : decode jdk_42_method_150_code 19 = .ok (.ifCond .eq 22, 3) := by decide +kernel
theorem d34_22 : decode jdk_42_method_150_code 22 = .ok (.aload_n 0, 1) := by decide +kernel
theorem d34_23 : decode jdk_42_method_150_code 23 = .ok (.iconst 0, 1) := by decide +kernel
theorem d34_24 : decode jdk_42_method_150_code 24 = .ok (.putfield 15, 3) := by decide +kernel
theorem d34_27 : decode jdk_42_method_150_code 27 = .ok (.aload_n 0, 1) := by decide +kernel
theorem d34_28 : decode jdk_42_method_150_code 28 = .ok (.aload_n 3, 1) := by decide +kernel
theorem d34_29 : decode jdk_42_method_150_code 29 = .ok (.iconst 0, 1) := by decide +kernel
theorem d34_30 : decode jdk_42_method_150_code 30 = .ok (.iload 4, 2) := by decide +kernel
theorem d34_32 : decode jdk_42_method_150_code 32 = .ok (.invokestatic 54, 3) := by decide +kernel
theorem d34_35 : decode jdk_42_method_150_code 35 = .ok (.putfield 9, 3) := by decide +kernel
theorem d34_38 : decode jdk_42_method_150_code 38 = .ok (.goto 59, 3) := by decide +kernel
theorem d34_97 : decode jdk_42_method_150_code 97 = .ok (.return_, 1) := by decide +kernel
theorem d35_0 : decode jdk_68_method_64_code 0 = .ok (.aload_n 0, 1) := by decide +kernel
theorem d35_1 : decode jdk_68_method_64_code 1 = .ok (.getfield 15, 3) := by decide +kernel
theorem d35_4 : decode jdk_68_method_64_code 4 = .ok (.areturn, 1) := by decide +kernel
theorem d36_0 : decode jdk_65_method_132_code 0 = .ok (.iload_n 1, 1) := by decide +kernel
theorem d36_1 : decode jdk_65_method_132_code 1 = .ok (.ifCond .ne 9, 3) := by decide +kernel
theorem d36_4 : decode jdk_65_method_132_code 4 = .ok (.iload_n 2, 1) := by decide +kernel
theorem d36_5 : decode jdk_65_method_132_code 5 = .ok (.aload_n 0, 1) := by decide +kernel
theorem d36_6 : decode jdk_65_method_132_code 6 = .ok (.arraylength, 1) := by decide +kernel
theorem d36_7 : decode jdk_65_method_132_code 7 = .ok (.if_icmp .eq 10, 3) := by decide +kernel
theorem d36_10 : decode jdk_65_method_132_code 10 = .ok (.aload_n 0, 1) := by decide +kernel
theorem d36_11 : decode jdk_65_method_132_code 11 = .ok (.iload_n 1, 1) := by decide +kernel
theorem d36_12 : decode jdk_65_method_132_code 12 = .ok (.iload_n 2, 1) := by decide +kernel
theorem d36_13 : decode jdk_65_method_132_code 13 = .ok (.invokestatic 339, 3) := by decide +kernel
theorem d36_16 : decode jdk_65_method_132_code 16 = .ok (.areturn, 1) := by decide +kernel
theorem d37_0 : decode jdk_65_method_133_code 0 = .ok (.iload_n 1, 1) := by decide +kernel
theorem d37_1 : decode jdk_65_method_133_code 1 = .ok (.iload_n 2, 1) := by decide +kernel
theorem d37_2 : decode jdk_65_method_133_code 2 = .ok (.invokestatic 343, 3) := by decide +kernel
theorem d37_5 : decode jdk_65_method_133_code 5 = .ok (.iload_n 2, 1) := by decide +kernel
theorem d37_6 : decode jdk_65_method_133_code 6 = .ok (.iload_n 1, 1) := by decide +kernel
theorem d37_7 : decode jdk_65_method_133_code 7 = .ok (.isub, 1) := by decide +kernel
theorem d37_8 : decode jdk_65_method_133_code 8 = .ok (.istore_n 3, 1) := by decide +kernel
theorem d37_9 : decode jdk_65_method_133_code 9 = .ok (.iload_n 3, 1) := by decide +kernel
theorem d37_10 : decode jdk_65_method_133_code 10 = .ok (.newarray .byte, 2) := by decide +kernel
theorem d37_12 : decode jdk_65_method_133_code 12 = .ok (.astore 4, 2) := by decide +kernel
theorem d37_14 : decode jdk_65_method_133_code 14 = .ok (.aload_n 0, 1) := by decide +kernel
theorem d37_15 : decode jdk_65_method_133_code 15 = .ok (.iload_n 1, 1) := by decide +kernel
theorem d37_16 : decode jdk_65_method_133_code 16 = .ok (.aload 4, 2) := by decide +kernel
theorem d37_18 : decode jdk_65_method_133_code 18 = .ok (.iconst 0, 1) := by decide +kernel
theorem d37_19 : decode jdk_65_method_133_code 19 = .ok (.aload_n 0, 1) := by decide +kernel
theorem d37_20 : decode jdk_65_method_133_code 20 = .ok (.arraylength, 1) := by decide +kernel
theorem d37_21 : decode jdk_65_method_133_code 21 = .ok (.iload_n 1, 1) := by decide +kernel
theorem d37_22 : decode jdk_65_method_133_code 22 = .ok (.isub, 1) := by decide +kernel
theorem d37_23 : decode jdk_65_method_133_code 23 = .ok (.iload_n 3, 1) := by decide +kernel
theorem d37_24 : decode jdk_65_method_133_code 24 = .ok (.invokestatic 304, 3) := by decide +kernel
theorem d37_27 : decode jdk_65_method_133_code 27 = .ok (.invokestatic 150, 3) := by decide +kernel
theorem d37_30 : decode jdk_65_method_133_code 30 = .ok (.aload 4, 2) := by decide +kernel
theorem d37_32 : decode jdk_65_method_133_code 32 = .ok (.areturn, 1) := by decide +kernel
theorem d38_0 : decode jdk_65_method_131_code 0 = .ok (.iload_n 1, 1) := by decide +kernel
theorem d38_1 : decode jdk_65_method_131_code 1 = .ok (.iload_n 0, 1) := by decide +kernel
theorem d38_2 : decode jdk_65_method_131_code 2 = .ok (.if_icmp .ge 35, 3) := by decide +kernel
theorem d38_37 : decode jdk_65_method_131_code 37 = .ok (.return_, 1) := by decide +kernel
theorem d39_0 : decode jdk_29_method_69_code 0 = .ok (.iload_n 0, 1) := by decide +kernel
theorem d39_1 : decode jdk_29_method_69_code 1 = .ok (.iload_n 1, 1) := by decide +kernel
theorem d39_2 : decode jdk_29_method_69_code 2 = .ok (.if_icmp .gt 7, 3) := by decide +kernel
theorem d39_9 : decode jdk_29_method_69_code 9 = .ok (.iload_n 1, 1) := by decide +kernel
theorem d39_10 : decode jdk_29_method_69_code 10 = .ok (.ireturn, 1) := by decide +kernel
theorem d40_0 : decode jdk_42_method_3_code 0 = .ok (.aload_n 0, 1) := by decide +kernel
theorem d40_1 : decode jdk_42_method_3_code 1 = .ok (.aload_n 1, 1) := by decide +kernel
theorem d40_2 : decode jdk_42_method_3_code 2 = .ok (.iconst 0, 1) := by decide +kernel
theorem d40_3 : decode jdk_42_method_3_code 3 = .ok (.aload_n 1, 1) := by decide +kernel
theorem d40_4 : decode jdk_42_method_3_code 4 = .ok (.arraylength, 1) := by decide +kernel
theorem d40_5 : decode jdk_42_method_3_code 5 = .ok (.aconst_null, 1) := by decide +kernel
theorem d40_6 : decode jdk_42_method_3_code 6 = .ok (.invokespecial 27, 3) := by decide +kernel
theorem d40_9 : decode jdk_42_method_3_code 9 = .ok (.return_, 1) := by decide +kernel
theorem d41_0 : decode jdk_42_method_149_code 0 = .ok (.aload_n 0, 1) := by decide +kernel
theorem d41_1 : decode jdk_42_method_149_code 1 = .ok (.invokespecial 1, 3) := by decide +kernel
theorem d41_4 : decode jdk_42_method_149_code 4 = .ok (.iload_n 3, 1) := by decide +kernel
theorem d41_5 : decode jdk_42_method_149_code 5 = .ok (.ifCond .ne 22, 3) := by decide +kernel
theorem d41_8 : decode jdk_42_method_149_code 8 = .ok (.aload_n 0, 1) := by decide +kernel
theorem d41_9 : decode jdk_42_method_149_code 9 = .ok (.ldc 7, 2) := by decide +kernel
theorem d41_11 : decode jdk_42_method_149_code 11 = .ok (.getfield 9, 3) := by decide +kernel
theorem d41_14 : decode jdk_42_method_149_code 14 = .ok (.putfield 9, 3) := by decide +kernel
theorem d41_17 : decode jdk_42_method_149_code 17 = .ok (.aload_n 0, 1) := by decide +kernel
theorem d41_18 : decode jdk_42_method_149_code 18 = .ok (.ldc 7, 2) := by decide +kernel
theorem d41_20 : decode jdk_42_method_149_code 20 = .ok (.getfield 15, 3) := by decide +kernel
theorem d41_23 : decode jdk_42_method_149_code 23 = .ok (.putfield 15, 3) := by decide +kernel
theorem d41_26 : decode jdk_42_method_149_code 26 = .ok (.return_, 1) := by decide +kernel
theorem d45_0 : decode jdk_42_method_66_code 0 = .ok (.aload_n 0, 1) := by decide +kernel
theorem d45_1 : decode jdk_42_method_66_code 1 = .ok (.aload_n 1, 1) := by decide +kernel
theorem d45_2 : decode jdk_42_method_66_code 2 = .ok (.if_acmp .ne 5, 3) := by decide +kernel
theorem d45_7 : decode jdk_42_method_66_code 7 = .ok (.aload_n 1, 1) := by decide +kernel
theorem d45_8 : decode jdk_42_method_66_code 8 = .ok (.instanceof 10, 3) := by decide +kernel
theorem d45_11 : decode jdk_42_method_66_code 11 = .ok (.ifCond .eq 43, 3) := by decide +kernel
theorem d45_14 : decode jdk_42_method_66_code 14 = .ok (.aload_n 1, 1) := by decide +kernel
theorem d45_15 : decode jdk_42_method_66_code 15 = .ok (.checkcast 10, 3) := by decide +kernel
theorem d45_18 : decode jdk_42_method_66_code 18 = .ok (.astore_n 2, 1) := by decide +kernel
theorem d45_19 : decode jdk_42_method_66_code 19 = .ok (.getstatic 38, 3) := by decide +kernel
theorem d45_22 : decode jdk_42_method_66_code 22 = .ok (.ifCond .eq 14, 3) := by decide +kernel
theorem d45_25 : decode jdk_42_method_66_code 25 = .ok (.aload_n 0, 1) := by decide +kernel
theorem d45_26 : decode jdk_42_method_66_code 26 = .ok (.getfield 15, 3) := by decide +kernel
theorem d45_29 : decode jdk_42_method_66_code 29 = .ok (.aload_n 2, 1) := by decide +kernel
theorem d45_30 : decode jdk_42_method_66_code 30 = .ok (.getfield 15, 3) := by decide +kernel
theorem d45_33 : decode jdk_42_method_66_code 33 = .ok (.if_icmp .ne 21, 3) := by decide +kernel
theorem d45_36 : decode jdk_42_method_66_code 36 = .ok (.aload_n 0, 1) := by decide +kernel
theorem d45_37 : decode jdk_42_method_66_code 37 = .ok (.getfield 9, 3) := by decide +kernel
theorem d45_40 : decode jdk_42_method_66_code 40 = .ok (.aload_n 2, 1) := by decide +kernel
theorem d45_41 : decode jdk_42_method_66_code 41 = .ok (.getfield 9, 3) := by decide +kernel
theorem d45_44 : decode jdk_42_method_66_code 44 = .ok (.invokestatic 541, 3) := by decide +kernel
theorem d45_47 : decode jdk_42_method_66_code 47 = .ok (.ifCond .eq 7, 3) := by decide +kernel
theorem d45_50 : decode jdk_42_method_66_code 50 = .ok (.iconst 1, 1) := by decide +kernel
theorem d45_51 : decode jdk_42_method_66_code 51 = .ok (.goto 4, 3) := by decide +kernel
theorem d45_55 : decode jdk_42_method_66_code 55 = .ok (.ireturn, 1) := by decide +kernel
theorem d46_0 : decode jdk_43_method_13_code 0 = .ok (.aload_n 0, 1) := by decide +kernel
theorem d46_1 : decode jdk_43_method_13_code 1 = .ok (.arraylength, 1) := by decide +kernel
theorem d46_2 : decode jdk_43_method_13_code 2 = .ok (.aload_n 1, 1) := by decide +kernel
theorem d46_3 : decode jdk_43_method_13_code 3 = .ok (.arraylength, 1) := by decide +kernel
theorem d46_4 : decode jdk_43_method_13_code 4 = .ok (.if_icmp .ne 30, 3) := by decide +kernel
theorem d46_7 : decode jdk_43_method_13_code 7 = .ok (.iconst 0, 1) := by decide +kernel
theorem d46_8 : decode jdk_43_method_13_code 8 = .ok (.istore_n 2, 1) := by decide +kernel
theorem d46_9 : decode jdk_43_method_13_code 9 = .ok (.iload_n 2, 1) := by decide +kernel
theorem d46_10 : decode jdk_43_method_13_code 10 = .ok (.aload_n 0, 1) := by decide +kernel
theorem d46_11 : decode jdk_43_method_13_code 11 = .ok (.arraylength, 1) := by decide +kernel
theorem d46_12 : decode jdk_43_method_13_code 12 = .ok (.if_icmp .ge 20, 3) := by decide +kernel
theorem d46_15 : decode jdk_43_method_13_code 15 = .ok (.aload_n 0, 1) := by decide +kernel
theorem d46_16 : decode jdk_43_method_13_code 16 = .ok (.iload_n 2, 1) := by decide +kernel
theorem d46_17 : decode jdk_43_method_13_code 17 = .ok (.baload, 1) := by decide +kernel
theorem d46_18 : decode jdk_43_method_13_code 18 = .ok (.aload_n 1, 1) := by decide +kernel
theorem d46_19 : decode jdk_43_method_13_code 19 = .ok (.iload_n 2, 1) := by decide +kernel
theorem d46_20 : decode jdk_43_method_13_code 20 = .ok (.baload, 1) := by decide +kernel
theorem d46_21 : decode jdk_43_method_13_code 21 = .ok (.if_icmp .eq 5, 3) := by decide +kernel
theorem d46_26 : decode jdk_43_method_13_code 26 = .ok (.iinc 2 1, 3) := by decide +kernel
theorem d46_29 : decode jdk_43_method_13_code 29 = .ok (.goto (-20), 3) := by decide +kernel
theorem d46_32 : decode jdk_43_method_13_code 32 = .ok (.iconst 1, 1) := by decide +kernel
theorem d46_33 : decode jdk_43_method_13_code 33 = .ok (.ireturn, 1) := by decide +kernel
theorem pd0 : parseMethodDescriptor "(I)V" = some ⟨[.int], none⟩ := by decide +kernel
theorem pd1 : parseMethodDescriptor "()V" = some ⟨[], none⟩ := by decide +kernel
theorem pd2 : parseMethodDescriptor "()I" = some ⟨[], some .int⟩ := by decide +kernel
theorem pd3 : parseMethodDescriptor "()B" = some ⟨[], some .byte⟩ := by decide +kernel
theorem pd4 : parseMethodDescriptor "(Ljava/lang/AbstractStringBuilder;)V" = some ⟨[(.object "java/lang/AbstractStringBuilder")], none⟩ := by decide +kernel
theorem pd5 : parseMethodDescriptor "([BIB)V" = some ⟨[(.array .byte), .int, .byte], none⟩ := by decide +kernel
theorem pd6 : parseMethodDescriptor "(Ljava/lang/AbstractStringBuilder;)Ljava/lang/AbstractStringBuilder;" = some ⟨[(.object "java/lang/AbstractStringBuilder")], some (.object "java/lang/AbstractStringBuilder")⟩ := by decide +kernel
theorem pd7 : parseMethodDescriptor "(Ljava/lang/CharSequence;)Ljava/lang/AbstractStringBuilder;" = some ⟨[(.object "java/lang/CharSequence")], some (.object "java/lang/AbstractStringBuilder")⟩ := by decide +kernel
theorem pd8 : parseMethodDescriptor "(Ljava/lang/CharSequence;)Ljava/lang/StringBuilder;" = some ⟨[(.object "java/lang/CharSequence")], some (.object "java/lang/StringBuilder")⟩ := by decide +kernel
theorem pd9 : parseMethodDescriptor "(Lcom/example/colophon/colophon/api/Html;)Lcom/example/colophon/colophon/api/Html;" = some ⟨[(.object "com/example/colophon/colophon/api/Html")], some (.object "com/example/colophon/colophon/api/Html")⟩ := by decide +kernel
theorem pd10 : parseMethodDescriptor "(C)Z" = some ⟨[.char], some .boolean⟩ := by decide +kernel
theorem pd11 : parseMethodDescriptor "(C)[B" = some ⟨[.char], some (.array .byte)⟩ := by decide +kernel
theorem pd12 : parseMethodDescriptor "([BB)V" = some ⟨[(.array .byte), .byte], none⟩ := by decide +kernel
theorem pd13 : parseMethodDescriptor "(C)Ljava/lang/String;" = some ⟨[.char], some (.object "java/lang/String")⟩ := by decide +kernel
theorem pd14 : parseMethodDescriptor "(Ljava/lang/String;)V" = some ⟨[(.object "java/lang/String")], none⟩ := by decide +kernel
theorem pd15 : parseMethodDescriptor "(ILjava/lang/String;)V" = some ⟨[.int, (.object "java/lang/String")], none⟩ := by decide +kernel
theorem pd16 : parseMethodDescriptor "(Ljava/lang/String;)Ljava/lang/AbstractStringBuilder;" = some ⟨[(.object "java/lang/String")], some (.object "java/lang/AbstractStringBuilder")⟩ := by decide +kernel
theorem pd17 : parseMethodDescriptor "(Ljava/lang/String;)Ljava/lang/StringBuilder;" = some ⟨[(.object "java/lang/String")], some (.object "java/lang/StringBuilder")⟩ := by decide +kernel
theorem pd18 : parseMethodDescriptor "()Z" = some ⟨[], some .boolean⟩ := by decide +kernel
theorem pd19 : parseMethodDescriptor "(C)Ljava/lang/AbstractStringBuilder;" = some ⟨[.char], some (.object "java/lang/AbstractStringBuilder")⟩ := by decide +kernel
theorem pd20 : parseMethodDescriptor "(C)Ljava/lang/StringBuilder;" = some ⟨[.char], some (.object "java/lang/StringBuilder")⟩ := by decide +kernel
theorem pd21 : parseMethodDescriptor "(Ljava/lang/String;)Lcom/example/colophon/colophon/api/Html;" = some ⟨[(.object "java/lang/String")], some (.object "com/example/colophon/colophon/api/Html")⟩ := by decide +kernel
theorem pd22 : parseMethodDescriptor "([CIC)V" = some ⟨[(.array .char), .int, .char], none⟩ := by decide +kernel
theorem pd23 : parseMethodDescriptor "()[B" = some ⟨[], some (.array .byte)⟩ := by decide +kernel
theorem pd24 : parseMethodDescriptor "(II)V" = some ⟨[.int, .int], none⟩ := by decide +kernel
theorem pd25 : parseMethodDescriptor "(II)I" = some ⟨[.int, .int], some .int⟩ := by decide +kernel
theorem pd26 : parseMethodDescriptor "([BII)[B" = some ⟨[(.array .byte), .int, .int], some (.array .byte)⟩ := by decide +kernel
theorem pd27 : parseMethodDescriptor "(Ljava/lang/AbstractStringBuilder;Ljava/lang/Void;)V" = some ⟨[(.object "java/lang/AbstractStringBuilder"), (.object "java/lang/Void")], none⟩ := by decide +kernel
theorem pd28 : parseMethodDescriptor "(Ljava/lang/StringBuilder;)V" = some ⟨[(.object "java/lang/StringBuilder")], none⟩ := by decide +kernel
theorem pd29 : parseMethodDescriptor "()Ljava/lang/String;" = some ⟨[], some (.object "java/lang/String")⟩ := by decide +kernel
theorem pd30 : parseMethodDescriptor "([CIILjava/lang/Void;)V" = some ⟨[(.array .char), .int, .int, (.object "java/lang/Void")], none⟩ := by decide +kernel
theorem pd31 : parseMethodDescriptor "([C)V" = some ⟨[(.array .char)], none⟩ := by decide +kernel
theorem pd32 : parseMethodDescriptor "([B[B)Z" = some ⟨[(.array .byte), (.array .byte)], some .boolean⟩ := by decide +kernel
theorem pd33 : parseMethodDescriptor "(Ljava/lang/Object;)Z" = some ⟨[(.object "java/lang/Object")], some .boolean⟩ := by decide +kernel
theorem pn0 : plainName "java/lang/AbstractStringBuilder" = true := by first | (simp [plainName, overriddenIn]; done) | decide +kernel
theorem pn1 : plainName "java/lang/StringBuilder" = true := by first | (simp [plainName, overriddenIn]; done) | decide +kernel
theorem pn2 : plainName "com/example/colophon/colophon/api/Html" = true := by first | (simp [plainName, overriddenIn]; done) | decide +kernel
theorem pn3 : plainName "java/lang/StringLatin1" = true := by first | (simp [plainName, overriddenIn]; done) | decide +kernel
theorem pn4 : plainName "java/lang/String" = true := by first | (simp [plainName, overriddenIn]; done) | decide +kernel
theorem pn5 : plainName "com/example/colophon/colophon/api/HtmlAppendPinLaw" = true := by first | (simp [plainName, overriddenIn]; done) | decide +kernel
theorem pn6 : plainName "java/util/Arrays" = true := by first | (simp [plainName, overriddenIn]; done) | decide +kernel
theorem rm1 (l : Launch) (Z : State) (a0 : Array Value) (hw : ∀ d ∈ tables_1, d.before a0 Z = true) (gCS : Int32) (a1 : Addr) (h0 : Heap) (O0 : Old Z Z.heap.size h0) (SgCS : Sta Z Z.heap "java/lang/String" "COMPACT_STRINGS" "Z" (.int gCS)) (NgCS : ¬ (gCS = (0 : Int32))) (E_a1 : Exa Z h0 a1 "java/lang/StringBuilder") (F_a1_value : Fld Z h0 a1 "java/lang/AbstractStringBuilder" "value" "[B" .null) (g_a1 : Z.heap.size ≤ a1) (F_a1_coder : Fld Z h0 a1 "java/lang/AbstractStringBuilder" "coder" "B" (.int 0)) (F_a1_count : Fld Z h0 a1 "java/lang/AbstractStringBuilder" "count" "I" (.int 0)) (F_a1_maybeLatin1 : Fld Z h0 a1 "java/lang/AbstractStringBuilder" "maybeLatin1" "Z" (.int 0)) :
    CtrN l Z (⟨"java/lang/AbstractStringBuilder", "<init>", "(I)V"⟩ : MethodName) jdk_68_method_2_code 2 none [] (⟨1, 1, 16, 12⟩ : Room) #[(.ref a1), (.int 16)] h0 [a1] (fun v h => ∃ r1 : Addr, ∃ r2 : ClassId, h0.size ≤ r1 ∧ Fld Z h a1 "java/lang/AbstractStringBuilder" "value" "[B" (.ref r1) ∧ Fld Z h a1 "java/lang/AbstractStringBuilder" "coder" "B" (.int 0) ∧ Fld Z h a1 "java/lang/AbstractStringBuilder" "count" "I" (.int 0) ∧ Fld Z h a1 "java/lang/AbstractStringBuilder" "maybeLatin1" "Z" (.int 0) ∧ Arv Z h r1 r2 .byte (16 : Int32) [(.int 0), (.int 0), (.int 0), (.int 0), (.int 0), (.int 0), (.int 0), (.int 0), (.int 0), (.int 0), (.int 0), (.int 0), (.int 0), (.int 0), (.int 0), (.int 0)] (.int 0) ∧ v = none) := by
  refine CtrN.intro (L0 := #[.val (.ref a1), .val (.int 16)]) (plainFor_of_name pn0) O0 (own_entry rfl) ?_
  intro p e s m below meth c T0 hy hml hret hlk hnm W0
  refine o_aloadN W0 (pc' := 1) (hb hy d4_0) rfl rfl rfl ?_
  refine o_initO W0 (w21 hw) (w7 hw) (w8 hw) (by rw [hml]; rfl) (pc' := 4) (hb hy d4_1) rfl (by decide) 0 (by exact Nat.le_of_eq rfl) (by decide) ?_
  intro T1 W1
  refine o_getS W1 (w22 hw) Via.refl (SgCS.ext W1.ox) (pc' := 7) (hb hy d4_4) rfl ?_
  intro T2 W2
  refine o_ifN W2 (pc' := 10) (hb hy d4_7) (XT.i0_eq_f NgCS) rfl ?_
  refine o_aloadN W2 (pc' := 11) (hb hy d4_10) rfl rfl rfl ?_
  refine o_iloadN W2 (pc' := 12) (hb hy d4_11) rfl rfl ?_
  refine o_newP W2 (aty := .byte) (w24 hw) (fun _ _ => trivial) (by decide) (cap := 16) (by decide) (by decide) (pc' := 14) (hb hy d4_12) rfl (cells' := 1) (slots' := 16) rfl rfl (by decide) (by decide) (vs := [(.int 0), (.int 0), (.int 0), (.int 0), (.int 0), (.int 0), (.int 0), (.int 0), (.int 0), (.int 0), (.int 0), (.int 0), (.int 0), (.int 0), (.int 0), (.int 0)]) (dv := (.int 0)) rfl rfl ?_
  intro b3 T3 h3 k3 W3 E3 ge3 gz3 gb3 V3
  have c4 := (E_a1.ext E3)
  have c5 := (F_a1_value.ext E3)
  refine o_putF W3 (w25 hw) Via.refl c5 c4 (Or.inl (w26 hw)) (w10 hw) (ty := (.array .byte)) (v' := (.ref b3)) (by decide) rfl rfl g_a1 (Or.inl (List.mem_of_getElem? (i := 0) rfl)) (fun _ _ => trivial) (pc' := 17) (hb hy d4_14) rfl ?_
  intro T6 h6 lo6 W6 R6
  have F6 := c5.same R6
  refine o_aloadN W6 (pc' := 18) (hb hy d4_17) rfl rfl rfl ?_
  refine o_iconst W6 (v := 0) (pc' := 19) (hb hy d4_18) rfl rfl ?_
  have c7 := (c4.wr R6)
  have c8 := ((F_a1_coder.ext E3).other R6 (Or.inr (slot_ne (Or.inl (w28 hw)) (Or.inl (w26 hw)) (by decide) (t := .byte) (t' := (.array .byte)) (by decide) (by decide))))
  refine o_putF W6 (w27 hw) Via.refl c8 c7 (Or.inl (w28 hw)) (w10 hw) (ty := .byte) (v' := (.int 0)) (by decide) rfl (by decide) g_a1 (Or.inl (List.mem_of_getElem? (i := 0) rfl)) (fun _ _ => trivial) (pc' := 22) (hb hy d4_19) rfl ?_
  intro T9 h9 lo9 W9 R9
  have F9 := c8.same R9
  refine o_goto W9 (pc' := 38) (hb hy d4_22) (by decide) rfl ?_
  have c10 := (F6.other R9 (Or.inr (slot_ne (Or.inl (w26 hw)) (Or.inl (w28 hw)) (by decide) (t := (.array .byte)) (t' := .byte) (by decide) (by decide))))
  have c11 := (((F_a1_count.ext E3).other R6 (Or.inr (slot_ne (Or.inl (w82 hw)) (Or.inl (w26 hw)) (by decide) (t := .int) (t' := (.array .byte)) (by decide) (by decide)))).other R9 (Or.inr (slot_ne (Or.inl (w82 hw)) (Or.inl (w28 hw)) (by decide) (t := .int) (t' := .byte) (by decide) (by decide))))
  have c12 := (((F_a1_maybeLatin1.ext E3).other R6 (Or.inr (slot_ne (Or.inl (w171 hw)) (Or.inl (w26 hw)) (by decide) (t := .boolean) (t' := (.array .byte)) (by decide) (by decide)))).other R9 (Or.inr (slot_ne (Or.inl (w171 hw)) (Or.inl (w28 hw)) (by decide) (t := .boolean) (t' := .byte) (by decide) (by decide))))
  have c13 := (c7.wr R9)
  have c14 := ((V3.other R6 (own_ne' E_a1.lt ge3)).other R9 (own_ne' E_a1.lt ge3))
  exact o_ret0 W9 hlk hret (hb hy d4_38) (by decide) (by decide) ⟨b3, k3, gb3, c10, F9, c11, c12, c14, rfl⟩
theorem rm2 (l : Launch) (Z : State) (a0 : Array Value) (hw : ∀ d ∈ tables_1, d.before a0 Z = true) (gCS : Int32) (a1 : Addr) (h0 : Heap) (O0 : Old Z Z.heap.size h0) (SgCS : Sta Z Z.heap "java/lang/String" "COMPACT_STRINGS" "Z" (.int gCS)) (NgCS : ¬ (gCS = (0 : Int32))) (E_a1 : Exa Z h0 a1 "java/lang/StringBuilder") (F_a1_value : Fld Z h0 a1 "java/lang/AbstractStringBuilder" "value" "[B" .null) (F_a1_coder : Fld Z h0 a1 "java/lang/AbstractStringBuilder" "coder" "B" (.int 0)) (F_a1_count : Fld Z h0 a1 "java/lang/AbstractStringBuilder" "count" "I" (.int 0)) (F_a1_maybeLatin1 : Fld Z h0 a1 "java/lang/AbstractStringBuilder" "maybeLatin1" "Z" (.int 0)) (g_a1 : Z.heap.size ≤ a1) :
    CtrN l Z (⟨"java/lang/StringBuilder", "<init>", "()V"⟩ : MethodName) jdk_67_method_1_code 1 none [] (⟨2, 1, 16, 25⟩ : Room) #[(.ref a1)] h0 [a1] (fun v h => ∃ r1 : Addr, ∃ r2 : ClassId, h0.size ≤ r1 ∧ Fld Z h a1 "java/lang/AbstractStringBuilder" "value" "[B" (.ref r1) ∧ Fld Z h a1 "java/lang/AbstractStringBuilder" "coder" "B" (.int 0) ∧ Fld Z h a1 "java/lang/AbstractStringBuilder" "count" "I" (.int 0) ∧ Fld Z h a1 "java/lang/AbstractStringBuilder" "maybeLatin1" "Z" (.int 0) ∧ Arv Z h r1 r2 .byte (16 : Int32) [(.int 0), (.int 0), (.int 0), (.int 0), (.int 0), (.int 0), (.int 0), (.int 0), (.int 0), (.int 0), (.int 0), (.int 0), (.int 0), (.int 0), (.int 0), (.int 0)] (.int 0) ∧ v = none) := by
  refine CtrN.intro (L0 := #[.val (.ref a1)]) (plainFor_of_name pn1) O0 (own_entry rfl) ?_
  intro p e s m below meth c T0 hy hml hret hlk hnm W0
  refine o_aloadN W0 (pc' := 1) (hb hy d3_0) rfl rfl rfl ?_
  refine o_bipush W0 (v := 16) (pc' := 3) (hb hy d3_1) (by decide) rfl ?_
  refine o_special W0 (y := (⟨"java/lang/AbstractStringBuilder", "<init>", "(I)V"⟩ : MethodName)) rfl (w15 hw) (w16 hw) (w20 hw) (by decide) (a := a1) (argsL := [(.int 16)]) (CtrN.back (Wd := 0) W0 (rm1 l Z a0 hw gCS a1 h0 W0.old SgCS NgCS E_a1 F_a1_value g_a1 F_a1_coder F_a1_count F_a1_maybeLatin1) (w20 hw) (w19 hw) (by decide) (by decide)) (by rw [hml]; rfl) (lenOf pd0 rfl) (S := []) rfl (by exact Nat.le_of_eq rfl) (pc' := 6) (hb hy d3_3) rfl (cells' := 1) (slots' := 16) rfl rfl (by decide) (by decide) (wy := [a1]) (fun _ _ _ q => ⟨q.1, q.2.1⟩) (allS ⟨g_a1, (Or.inl (List.mem_of_getElem? (i := 0) rfl))⟩ all0) (fun _ _ => trivial) ?_
  intro v1 T1 h1 lo1 W1 K1 q1
  obtain ⟨r1_1, r2_1, P1_0, P1_1, P1_2, P1_3, P1_4, P1_5, rfl⟩ := q1.2.2
  show Gl _ _ _ _ _ _ _ _ []
  have c2 := (E_a1.keep K1)
  exact o_ret0 W1 hlk hret (hb hy d3_6) (by decide) (by decide) ⟨r1_1, r2_1, (Nat.le_trans W0.keep.1 P1_0), P1_1, P1_2, P1_3, P1_4, P1_5, rfl⟩
theorem rm3 (l : Launch) (Z : State) (a0 : Array Value) (hw : ∀ d ∈ tables_1, d.before a0 Z = true) (gCS : Int32) (a1 : Addr) (h0 : Heap) (O0 : Old Z Z.heap.size h0) (SgCS : Sta Z Z.heap "java/lang/String" "COMPACT_STRINGS" "Z" (.int gCS)) (NgCS : ¬ (gCS = (0 : Int32))) (E_a1 : Exa Z h0 a1 "com/example/colophon/colophon/api/Html") (F_a1_out : Fld Z h0 a1 "com/example/colophon/colophon/api/Html" "out" "Ljava/lang/StringBuilder;" .null) (g_a1 : Z.heap.size ≤ a1) :
    CtrN l Z (⟨"com/example/colophon/colophon/api/Html", "<init>", "()V"⟩ : MethodName) prog_5_method_1_code 1 none [] (⟨3, 2, 20, 39⟩ : Room) #[(.ref a1)] h0 [a1] (fun v h => ∃ r1 : Addr, ∃ r2 : Addr, ∃ r3 : ClassId, h0.size ≤ r1 ∧ h0.size ≤ r2 ∧ Fld Z h a1 "com/example/colophon/colophon/api/Html" "out" "Ljava/lang/StringBuilder;" (.ref r1) ∧ Exa Z h r1 "java/lang/StringBuilder" ∧ Fld Z h r1 "java/lang/AbstractStringBuilder" "value" "[B" (.ref r2) ∧ Fld Z h r1 "java/lang/AbstractStringBuilder" "coder" "B" (.int 0) ∧ Fld Z h r1 "java/lang/AbstractStringBuilder" "count" "I" (.int 0) ∧ Fld Z h r1 "java/lang/AbstractStringBuilder" "maybeLatin1" "Z" (.int 0) ∧ Arv Z h r2 r3 .byte (16 : Int32) [(.int 0), (.int 0), (.int 0), (.int 0), (.int 0), (.int 0), (.int 0), (.int 0), (.int 0), (.int 0), (.int 0), (.int 0), (.int 0), (.int 0), (.int 0), (.int 0)] (.int 0) ∧ v = none) := by
  refine CtrN.intro (L0 := #[.val (.ref a1)]) (plainFor_of_name pn2) O0 (own_entry rfl) ?_
  intro p e s m below meth c T0 hy hml hret hlk hnm W0
  refine o_aloadN W0 (pc' := 1) (hb hy d1_0) rfl rfl rfl ?_
  refine o_initO W0 (w6 hw) (w7 hw) (w8 hw) (by rw [hml]; rfl) (pc' := 4) (hb hy d1_1) rfl (by decide) 0 (by exact Nat.le_of_eq rfl) (by decide) ?_
  intro T1 W1
  refine o_aloadN W1 (pc' := 5) (hb hy d1_4) rfl rfl rfl ?_
  refine o_new W1 (w9 hw) (w10 hw) (w11 hw) (fun _ _ => trivial) (pc' := 8) (hb hy d1_5) rfl (cells' := 1) (slots' := 4) rfl rfl (by decide) (by decide) ?_
  intro b2 T2 h2 W2 E2 ge2 gz2 gb2 A2 D2
  have Fb2_value : Fld Z h2 b2 "java/lang/AbstractStringBuilder" "value" "[B" .null := D2 (Or.inl (w26 hw)) (ty := (.array .byte)) (by decide)
  have Fb2_coder : Fld Z h2 b2 "java/lang/AbstractStringBuilder" "coder" "B" (.int 0) := D2 (Or.inl (w28 hw)) (ty := .byte) (by decide)
  have Fb2_count : Fld Z h2 b2 "java/lang/AbstractStringBuilder" "count" "I" (.int 0) := D2 (Or.inl (w82 hw)) (ty := .int) (by decide)
  have Fb2_maybeLatin1 : Fld Z h2 b2 "java/lang/AbstractStringBuilder" "maybeLatin1" "Z" (.int 0) := D2 (Or.inl (w171 hw)) (ty := .boolean) (by decide)
  refine o_dup W2 (pc' := 9) (hb hy d1_8) rfl rfl ?_
  refine o_special W2 (y := (⟨"java/lang/StringBuilder", "<init>", "()V"⟩ : MethodName)) rfl (w12 hw) (w13 hw) (w14 hw) (by decide) (a := b2) (argsL := []) (CtrN.back (Wd := 2) W2 (rm2 l Z a0 hw gCS b2 h2 W2.old SgCS NgCS A2 Fb2_value Fb2_coder Fb2_count Fb2_maybeLatin1 gz2) (w14 hw) (w11 hw) (by decide) (by decide)) (by rw [hml]; rfl) (lenOf pd1 rfl) (S := [(.ref b2), (.ref a1)]) rfl (by exact Nat.le_of_eq rfl) (pc' := 12) (hb hy d1_9) rfl (cells' := 2) (slots' := 20) rfl rfl (by decide) (by decide) (wy := [b2]) (fun _ _ _ q => ⟨q.1, q.2.1⟩) (allS ⟨gz2, (Or.inr gb2)⟩ all0) (fun _ _ => trivial) ?_
  intro v3 T3 h3 lo3 W3 K3 q3
  obtain ⟨r1_3, r2_3, P3_0, P3_1, P3_2, P3_3, P3_4, P3_5, rfl⟩ := q3.2.2
  show Gl _ _ _ _ _ _ _ _ [(.ref b2), (.ref a1)]
  have c4 := ((E_a1.ext E2).keep K3)
  have c5 := ((F_a1_out.ext E2).keep K3 (ninS (own_ne E_a1.lt ge2) nin0))
  refine o_putF W3 (w29 hw) Via.refl c5 c4 (Or.inr ⟨(w30 hw), rfl, hnm⟩) (w1 hw) (ty := (.object "java/lang/StringBuilder")) (v' := (.ref b2)) (by decide) rfl rfl g_a1 (Or.inl (List.mem_of_getElem? (i := 0) rfl)) (fun _ _ => trivial) (pc' := 15) (hb hy d1_12) rfl ?_
  intro T6 h6 lo6 W6 R6
  have F6 := c5.same R6
  have c7 := (c4.wr R6)
  have c8 := ((A2.keep K3).wr R6)
  have c9 := (P3_1.other R6 (Or.inl (own_ne' E_a1.lt ge2)))
  have c10 := (P3_2.other R6 (Or.inl (own_ne' E_a1.lt ge2)))
  have c11 := (P3_3.other R6 (Or.inl (own_ne' E_a1.lt ge2)))
  have c12 := (P3_4.other R6 (Or.inl (own_ne' E_a1.lt ge2)))
  have c13 := (E_a1.ext E2)
  have c14 := (P3_5.other R6 (own_ne' c13.lt P3_0))
  exact o_ret0 W6 hlk hret (hb hy d1_15) (by decide) (by decide) ⟨b2, r1_3, r2_3, gb2, (Nat.le_trans W2.keep.1 P3_0), F6, c8, c9, c10, c11, c12, c14, rfl⟩
theorem rm4 (l : Launch) (Z : State) (a0 : Array Value) (hw : ∀ d ∈ tables_1, d.before a0 Z = true) (a1 : Addr) (h0 : Heap) (O0 : Old Z Z.heap.size h0) (F_a1_count : Fld Z h0 a1 "java/lang/AbstractStringBuilder" "count" "I" (.int 0)) :
    CtrN l Z (⟨"java/lang/AbstractStringBuilder", "length", "()I"⟩ : MethodName) jdk_68_method_6_code 1 (some .int) [] (⟨0, 0, 0, 0⟩ : Room) #[(.ref a1)] h0 [] (fun v h => v = some (.int 0)) := by
  refine CtrN.intro (L0 := #[.val (.ref a1)]) (plainFor_of_name pn0) O0 (own_entry rfl) ?_
  intro p e s m below meth c T0 hy hml hret hlk hnm W0
  refine o_aloadN W0 (pc' := 1) (hb hy d26_0) rfl rfl rfl ?_
  refine o_getF W0 (w81 hw) Via.refl F_a1_count (pc' := 4) (hb hy d26_1) rfl ?_
  intro T1 W1
  exact o_retI W1 hlk hret (hb hy d26_4) (by decide) (by decide) rfl
theorem rm5 (l : Launch) (Z : State) (a0 : Array Value) (hw : ∀ d ∈ tables_1, d.before a0 Z = true) (a1 : Addr) (h0 : Heap) (O0 : Old Z Z.heap.size h0) (F_a1_count : Fld Z h0 a1 "java/lang/AbstractStringBuilder" "count" "I" (.int 0)) (E_a1 : Exa Z h0 a1 "java/lang/StringBuilder") :
    CtrN l Z (⟨"java/lang/StringBuilder", "length", "()I"⟩ : MethodName) jdk_67_method_93_code 1 (some .int) [] (⟨1, 0, 0, 12⟩ : Room) #[(.ref a1)] h0 [] (fun v h => v = some (.int 0)) := by
  refine CtrN.intro (L0 := #[.val (.ref a1)]) (plainFor_of_name pn1) O0 (own_entry rfl) ?_
  intro p e s m below meth c T0 hy hml hret hlk hnm W0
  refine o_aloadN W0 (pc' := 1) (hb hy d25_0) rfl rfl rfl ?_
  refine o_super W0 (y := (⟨"java/lang/AbstractStringBuilder", "length", "()I"⟩ : MethodName)) (by decide) (w152 hw) (w148 hw) (own_sameM (y := (⟨"java/lang/AbstractStringBuilder", "length", "()I"⟩ : MethodName)) (by decide) (w148 hw) (w138 hw)) (w68 hw) (w153 hw) (Ins.self E_a1) (argsL := []) (CtrN.back (Wd := 0) W0 (rm4 l Z a0 hw a1 h0 W0.old F_a1_count) (w153 hw) (w19 hw) (by decide) (by decide)) (by rw [hml]; rfl) (lenOf pd2 rfl) (S := []) rfl (by exact Nat.le_of_eq rfl) (pc' := 4) (hb hy d25_1) rfl (cells' := 0) (slots' := 0) rfl rfl (by decide) (by decide) (wy := []) (fun _ _ _ q => ⟨q.1, q.2.1⟩) all0 (fun _ _ => trivial) ?_
  intro v1 T1 h1 lo1 W1 K1 q1
  obtain rfl := q1.2.2
  show Gl _ _ _ _ _ _ _ _ [(.int 0)]
  exact o_retI W1 hlk hret (hb hy d25_4) (by decide) (by decide) rfl
theorem rm6 (l : Launch) (Z : State) (a0 : Array Value) (hw : ∀ d ∈ tables_1, d.before a0 Z = true) (a1 a2 : Addr) (k_a2 : ClassId) (h0 : Heap) (O0 : Old Z Z.heap.size h0) (F_a1_value : Fld Z h0 a1 "java/lang/AbstractStringBuilder" "value" "[B" (.ref a2)) (V_a2 : Arv Z h0 a2 k_a2 .byte (16 : Int32) [(.int 0), (.int 0), (.int 0), (.int 0), (.int 0), (.int 0), (.int 0), (.int 0), (.int 0), (.int 0), (.int 0), (.int 0), (.int 0), (.int 0), (.int 0), (.int 0)] (.int 0)) (F_a1_coder : Fld Z h0 a1 "java/lang/AbstractStringBuilder" "coder" "B" (.int 0)) :
    CtrN l Z (⟨"java/lang/AbstractStringBuilder", "ensureCapacityInternal", "(I)V"⟩ : MethodName) jdk_68_method_9_code 3 none [] (⟨0, 0, 0, 0⟩ : Room) #[(.ref a1), (.int 0)] h0 [] (fun v h => v = none) := by
  refine CtrN.intro (L0 := #[.val (.ref a1), .val (.int 0), .unset]) (plainFor_of_name pn0) O0 (own_entry rfl) ?_
  intro p e s m below meth c T0 hy hml hret hlk hnm W0
  refine o_aloadN W0 (pc' := 1) (hb hy d14_0) rfl rfl rfl ?_
  refine o_getF W0 (w25 hw) Via.refl F_a1_value (pc' := 4) (hb hy d14_1) rfl ?_
  intro T1 W1
  refine o_len W1 V_a2 (pc' := 5) (hb hy d14_4) rfl ?_
  refine o_aloadN W1 (pc' := 6) (hb hy d14_5) rfl rfl rfl ?_
  refine o_getF W1 (w27 hw) Via.refl F_a1_coder (pc' := 9) (hb hy d14_6) rfl ?_
  intro T2 W2
  refine o_ishr W2 (v := 16) (pc' := 10) (hb hy d14_9) (by decide) rfl ?_
  refine o_istoreN W2 (L' := #[.val (.ref a1), .val (.int 0), .val (.int 16)]) (pc' := 11) (hb hy d14_10) rfl rfl ?_
  refine o_iloadN W2 (pc' := 12) (hb hy d14_11) rfl rfl ?_
  refine o_iloadN W2 (pc' := 13) (hb hy d14_12) rfl rfl ?_
  refine o_isub W2 (v := (-16 : Int32)) (pc' := 14) (hb hy d14_13) (by decide) rfl ?_
  refine o_ifY W2 (pc' := 38) (hb hy d14_14) (XT.i0_le_t (by decide)) (by decide) rfl ?_
  exact o_ret0 W2 hlk hret (hb hy d14_38) (by decide) (by decide) rfl
theorem rm7 (l : Launch) (Z : State) (a0 : Array Value) (hw : ∀ d ∈ tables_1, d.before a0 Z = true) (gCS : Int32) (a1 : Addr) (h0 : Heap) (O0 : Old Z Z.heap.size h0) (SgCS : Sta Z Z.heap "java/lang/String" "COMPACT_STRINGS" "Z" (.int gCS)) (NgCS : ¬ (gCS = (0 : Int32))) (F_a1_coder : Fld Z h0 a1 "java/lang/AbstractStringBuilder" "coder" "B" (.int 0)) :
    CtrN l Z (⟨"java/lang/AbstractStringBuilder", "getCoder", "()B"⟩ : MethodName) jdk_68_method_67_code 1 (some .byte) [] (⟨0, 0, 0, 0⟩ : Room) #[(.ref a1)] h0 [] (fun v h => v = some (.int 0)) := by
  refine CtrN.intro (L0 := #[.val (.ref a1)]) (plainFor_of_name pn0) O0 (own_entry rfl) ?_
  intro p e s m below meth c T0 hy hml hret hlk hnm W0
  refine o_getS W0 (w22 hw) Via.refl (SgCS.ext W0.ox) (pc' := 3) (hb hy d28_0) rfl ?_
  intro T1 W1
  refine o_ifN W1 (pc' := 6) (hb hy d28_3) (XT.i0_eq_f NgCS) rfl ?_
  refine o_aloadN W1 (pc' := 7) (hb hy d28_6) rfl rfl rfl ?_
  refine o_getF W1 (w27 hw) Via.refl F_a1_coder (pc' := 10) (hb hy d28_7) rfl ?_
  intro T2 W2
  refine o_goto W2 (pc' := 14) (hb hy d28_10) (by decide) rfl ?_
  exact o_retN W2 hlk (t := .byte) hret (by simp) (z' := (0 : Int32)) (by decide) (hb hy d28_14) (by decide) (by decide) rfl
theorem rm8 (l : Launch) (Z : State) (a0 : Array Value) (hw : ∀ d ∈ tables_1, d.before a0 Z = true) (gCS : Int32) (a1 a2 : Addr) (h0 : Heap) (O0 : Old Z Z.heap.size h0) (SgCS : Sta Z Z.heap "java/lang/String" "COMPACT_STRINGS" "Z" (.int gCS)) (NgCS : ¬ (gCS = (0 : Int32))) (F_a1_coder : Fld Z h0 a1 "java/lang/AbstractStringBuilder" "coder" "B" (.int 0)) (E_a2 : Exa Z h0 a2 "java/lang/StringBuilder") (F_a2_coder : Fld Z h0 a2 "java/lang/AbstractStringBuilder" "coder" "B" (.int 0)) :
    CtrN l Z (⟨"java/lang/AbstractStringBuilder", "inflateIfNeededFor", "(Ljava/lang/AbstractStringBuilder;)V"⟩ : MethodName) jdk_68_method_72_code 2 none [] (⟨1, 0, 0, 13⟩ : Room) #[(.ref a1), (.ref a2)] h0 [] (fun v h => v = none) := by
  refine CtrN.intro (L0 := #[.val (.ref a1), .val (.ref a2)]) (plainFor_of_name pn0) O0 (own_entry rfl) ?_
  intro p e s m below meth c T0 hy hml hret hlk hnm W0
  refine o_getS W0 (w22 hw) Via.refl (SgCS.ext W0.ox) (pc' := 3) (hb hy d27_0) rfl ?_
  intro T1 W1
  refine o_ifN W1 (pc' := 6) (hb hy d27_3) (XT.i0_eq_f NgCS) rfl ?_
  refine o_aloadN W1 (pc' := 7) (hb hy d27_6) rfl rfl rfl ?_
  refine o_getF W1 (w27 hw) Via.refl F_a1_coder (pc' := 10) (hb hy d27_7) rfl ?_
  intro T2 W2
  refine o_aloadN W2 (pc' := 11) (hb hy d27_10) rfl rfl rfl ?_
  refine o_virtual W2 (y := (⟨"java/lang/AbstractStringBuilder", "getCoder", "()B"⟩ : MethodName)) (z := (⟨"java/lang/AbstractStringBuilder", "getCoder", "()B"⟩ : MethodName)) (w159 hw) (w160 hw) (o_nf W2 rfl (w162 hw)) (w162 hw) (w161 hw) (by decide) E_a2 (argsL := []) (CtrN.back (Wd := 1) W2 (rm7 l Z a0 hw gCS a2 h0 W2.old SgCS NgCS F_a2_coder) (w163 hw) (w19 hw) (by decide) (by decide)) (by rw [hml]; rfl) (lenOf pd3 rfl) (S := [(.int 0)]) rfl (by exact Nat.le_of_eq rfl) (pc' := 14) (hb hy d27_11) rfl (cells' := 0) (slots' := 0) rfl rfl (by decide) (by decide) (wy := []) (fun _ _ _ q => ⟨q.1, q.2.1⟩) all0 (fun _ _ => trivial) ?_
  intro v3 T3 h3 lo3 W3 K3 q3
  obtain rfl := q3.2.2
  show Gl _ _ _ _ _ _ _ _ [(.int 0), (.int 0)]
  refine o_icmpY W3 (pc' := 21) (hb hy d27_14) (XT.ii_eq_t (by decide)) (by decide) rfl ?_
  exact o_ret0 W3 hlk hret (hb hy d27_21) (by decide) (by decide) rfl
theorem rm9 (l : Launch) (Z : State) (a0 : Array Value) (hw : ∀ d ∈ tables_1, d.before a0 Z = true) (a1 a2 a3 : Addr) (k_a3 k_a2 : ClassId) (h0 : Heap) (O0 : Old Z Z.heap.size h0) (F_a1_coder : Fld Z h0 a1 "java/lang/AbstractStringBuilder" "coder" "B" (.int 0)) (F_a1_value : Fld Z h0 a1 "java/lang/AbstractStringBuilder" "value" "[B" (.ref a3)) (F_a1_count : Fld Z h0 a1 "java/lang/AbstractStringBuilder" "count" "I" (.int 0)) (V_a3 : Arv Z h0 a3 k_a3 .byte (16 : Int32) [(.int 0), (.int 0), (.int 0), (.int 0), (.int 0), (.int 0), (.int 0), (.int 0), (.int 0), (.int 0), (.int 0), (.int 0), (.int 0), (.int 0), (.int 0), (.int 0)] (.int 0)) (V_a2 : Arv Z h0 a2 k_a2 .byte (16 : Int32) [(.int 0), (.int 0), (.int 0), (.int 0), (.int 0), (.int 0), (.int 0), (.int 0), (.int 0), (.int 0), (.int 0), (.int 0), (.int 0), (.int 0), (.int 0), (.int 0)] (.int 0)) (g_a2 : Z.heap.size ≤ a2) :
    CtrN l Z (⟨"java/lang/AbstractStringBuilder", "getBytes", "([BIB)V"⟩ : MethodName) jdk_68_method_65_code 4 none [] (⟨1, 0, 0, 27⟩ : Room) #[(.ref a1), (.ref a2), (.int 0), (.int 0)] h0 [a2] (fun v h => Arv Z h a2 k_a2 .byte (16 : Int32) [(.int 0), (.int 0), (.int 0), (.int 0), (.int 0), (.int 0), (.int 0), (.int 0), (.int 0), (.int 0), (.int 0), (.int 0), (.int 0), (.int 0), (.int 0), (.int 0)] (.int 0) ∧ v = none) := by
  refine CtrN.intro (L0 := #[.val (.ref a1), .val (.ref a2), .val (.int 0), .val (.int 0)]) (plainFor_of_name pn0) O0 (own_entry rfl) ?_
  intro p e s m below meth c T0 hy hml hret hlk hnm W0
  refine o_aloadN W0 (pc' := 1) (hb hy d29_0) rfl rfl rfl ?_
  refine o_getF W0 (w27 hw) Via.refl F_a1_coder (pc' := 4) (hb hy d29_1) rfl ?_
  intro T1 W1
  refine o_iloadN W1 (pc' := 5) (hb hy d29_4) rfl rfl ?_
  refine o_icmpN W1 (pc' := 8) (hb hy d29_5) (XT.ii_ne_f (by decide)) rfl ?_
  refine o_aloadN W1 (pc' := 9) (hb hy d29_8) rfl rfl rfl ?_
  refine o_getF W1 (w25 hw) Via.refl F_a1_value (pc' := 12) (hb hy d29_9) rfl ?_
  intro T2 W2
  refine o_iconst W2 (v := 0) (pc' := 13) (hb hy d29_12) rfl rfl ?_
  refine o_aloadN W2 (pc' := 14) (hb hy d29_13) rfl rfl rfl ?_
  refine o_iloadN W2 (pc' := 15) (hb hy d29_14) rfl rfl ?_
  refine o_iloadN W2 (pc' := 16) (hb hy d29_15) rfl rfl ?_
  refine o_ishl W2 (v := 0) (pc' := 17) (hb hy d29_16) (by decide) rfl ?_
  refine o_aloadN W2 (pc' := 18) (hb hy d29_17) rfl rfl rfl ?_
  refine o_getF W2 (w81 hw) Via.refl F_a1_count (pc' := 21) (hb hy d29_18) rfl ?_
  intro T3 W3
  refine o_iloadN W3 (pc' := 22) (hb hy d29_21) rfl rfl ?_
  refine o_ishl W3 (v := 0) (pc' := 23) (hb hy d29_22) (by decide) rfl ?_
  refine o_copy W3 (w169 hw) (w107 hw) (w105 hw) (w106 hw) V_a3 V_a2 (us := []) (Or.inl ⟨rfl, rfl⟩) (by decide) (by decide) (by decide) (by decide) (by decide) rfl (Nat.le_of_ble_eq_true rfl) (vd' := [(.int 0), (.int 0), (.int 0), (.int 0), (.int 0), (.int 0), (.int 0), (.int 0), (.int 0), (.int 0), (.int 0), (.int 0), (.int 0), (.int 0), (.int 0), (.int 0)]) rfl g_a2 (Or.inl (List.mem_of_getElem? (i := 0) rfl)) (fun _ _ => trivial) (by rw [hml]; rfl) (pc' := 26) (hb hy d29_23) rfl (by decide) 0 (by exact Nat.le_of_eq rfl) (by decide) ?_
  intro T4 h4 lo4 W4 K4 V4
  refine o_goto W4 (pc' := 43) (hb hy d29_26) (by decide) rfl ?_
  exact o_ret0 W4 hlk hret (hb hy d29_43) (by decide) (by decide) ⟨V4, rfl⟩
theorem rm10 (l : Launch) (Z : State) (a0 : Array Value) (hw : ∀ d ∈ tables_1, d.before a0 Z = true) (gCS : Int32) (a1 a2 a3 : Addr) (k_a3 : ClassId) (a4 : Addr) (k_a4 : ClassId) (h0 : Heap) (O0 : Old Z Z.heap.size h0) (E_a2 : Exa Z h0 a2 "java/lang/StringBuilder") (F_a2_count : Fld Z h0 a2 "java/lang/AbstractStringBuilder" "count" "I" (.int 0)) (F_a1_count : Fld Z h0 a1 "java/lang/AbstractStringBuilder" "count" "I" (.int 0)) (E_a1 : Exa Z h0 a1 "java/lang/StringBuilder") (F_a1_value : Fld Z h0 a1 "java/lang/AbstractStringBuilder" "value" "[B" (.ref a3)) (V_a3 : Arv Z h0 a3 k_a3 .byte (16 : Int32) [(.int 0), (.int 0), (.int 0), (.int 0), (.int 0), (.int 0), (.int 0), (.int 0), (.int 0), (.int 0), (.int 0), (.int 0), (.int 0), (.int 0), (.int 0), (.int 0)] (.int 0)) (F_a1_coder : Fld Z h0 a1 "java/lang/AbstractStringBuilder" "coder" "B" (.int 0)) (SgCS : Sta Z Z.heap "java/lang/String" "COMPACT_STRINGS" "Z" (.int gCS)) (NgCS : ¬ (gCS = (0 : Int32))) (F_a2_coder : Fld Z h0 a2 "java/lang/AbstractStringBuilder" "coder" "B" (.int 0)) (F_a2_value : Fld Z h0 a2 "java/lang/AbstractStringBuilder" "value" "[B" (.ref a4)) (V_a4 : Arv Z h0 a4 k_a4 .byte (16 : Int32) [(.int 0), (.int 0), (.int 0), (.int 0), (.int 0), (.int 0), (.int 0), (.int 0), (.int 0), (.int 0), (.int 0), (.int 0), (.int 0), (.int 0), (.int 0), (.int 0)] (.int 0)) (g_a3 : Z.heap.size ≤ a3) (g_a1 : Z.heap.size ≤ a1) (F_a1_maybeLatin1 : Fld Z h0 a1 "java/lang/AbstractStringBuilder" "maybeLatin1" "Z" (.int 0)) (F_a2_maybeLatin1 : Fld Z h0 a2 "java/lang/AbstractStringBuilder" "maybeLatin1" "Z" (.int 0)) (ne_a1_a2 : a1 ≠ a2) :
    CtrN l Z (⟨"java/lang/AbstractStringBuilder", "append", "(Ljava/lang/AbstractStringBuilder;)Ljava/lang/AbstractStringBuilder;"⟩ : MethodName) jdk_68_method_24_code 3 (some (.object "java/lang/AbstractStringBuilder")) [] (⟨2, 0, 0, 42⟩ : Room) #[(.ref a1), (.ref a2)] h0 [a3, a1] (fun v h => Fld Z h a1 "java/lang/AbstractStringBuilder" "count" "I" (.int 0) ∧ Fld Z h a1 "java/lang/AbstractStringBuilder" "value" "[B" (.ref a3) ∧ Arv Z h a3 k_a3 .byte (16 : Int32) [(.int 0), (.int 0), (.int 0), (.int 0), (.int 0), (.int 0), (.int 0), (.int 0), (.int 0), (.int 0), (.int 0), (.int 0), (.int 0), (.int 0), (.int 0), (.int 0)] (.int 0) ∧ Fld Z h a1 "java/lang/AbstractStringBuilder" "coder" "B" (.int 0) ∧ Fld Z h a1 "java/lang/AbstractStringBuilder" "maybeLatin1" "Z" (.int 0) ∧ v = some (.ref a1)) := by
  refine CtrN.intro (L0 := #[.val (.ref a1), .val (.ref a2), .unset]) (plainFor_of_name pn0) O0 (own_entry rfl) ?_
  intro p e s m below meth c T0 hy hml hret hlk hnm W0
  refine o_aloadN W0 (pc' := 1) (hb hy d24_0) rfl rfl rfl ?_
  refine o_ifnonnullY W0 (pc' := 9) (hb hy d24_1) (by decide) rfl ?_
  refine o_aloadN W0 (pc' := 10) (hb hy d24_9) rfl rfl rfl ?_
  refine o_virtual W0 (y := (⟨"java/lang/AbstractStringBuilder", "length", "()I"⟩ : MethodName)) (z := (⟨"java/lang/StringBuilder", "length", "()I"⟩ : MethodName)) (w146 hw) (w147 hw) (nf_super (args := #[]) (mvT W0.2.2.2.1 (w138 hw))) (w149 hw) (w150 hw) (by decide) E_a2 (argsL := []) (CtrN.back (Wd := 0) W0 (rm5 l Z a0 hw a2 h0 W0.old F_a2_count E_a2) (w151 hw) (w11 hw) (by decide) (by decide)) (by rw [hml]; rfl) (lenOf pd2 rfl) (S := []) rfl (by exact Nat.le_of_eq rfl) (pc' := 13) (hb hy d24_10) rfl (cells' := 0) (slots' := 0) rfl rfl (by decide) (by decide) (wy := []) (fun _ _ _ q => ⟨q.1, q.2.1⟩) all0 (fun _ _ => trivial) ?_
  intro v1 T1 h1 lo1 W1 K1 q1
  obtain rfl := q1.2.2
  show Gl _ _ _ _ _ _ _ _ [(.int 0)]
  refine o_istoreN W1 (L' := #[.val (.ref a1), .val (.ref a2), .val (.int 0)]) (pc' := 14) (hb hy d24_13) rfl rfl ?_
  refine o_aloadN W1 (pc' := 15) (hb hy d24_14) rfl rfl rfl ?_
  refine o_aloadN W1 (pc' := 16) (hb hy d24_15) rfl rfl rfl ?_
  have c2 := (F_a1_count.keep K1 nin0)
  refine o_getF W1 (w81 hw) Via.refl c2 (pc' := 19) (hb hy d24_16) rfl ?_
  intro T3 W3
  refine o_iloadN W3 (pc' := 20) (hb hy d24_19) rfl rfl ?_
  refine o_iadd W3 (v := 0) (pc' := 21) (hb hy d24_20) (by decide) rfl ?_
  have c4 := (E_a1.keep K1)
  have c5 := (F_a1_value.keep K1 nin0)
  have c6 := (V_a3.keep K1 nin0)
  have c7 := (F_a1_coder.keep K1 nin0)
  refine o_private W3 (y := (⟨"java/lang/AbstractStringBuilder", "ensureCapacityInternal", "(I)V"⟩ : MethodName)) (w83 hw) (w84 hw) (w86 hw) (w85 hw) (w87 hw) (by decide) c4 (argsL := [(.int 0)]) (CtrN.back (Wd := 0) W3 (rm6 l Z a0 hw a1 a3 k_a3 h1 W3.old c5 c6 c7) (w87 hw) (w19 hw) (by decide) (by decide)) (by rw [hml]; rfl) (lenOf pd0 rfl) (S := []) rfl (by exact Nat.le_of_eq rfl) (pc' := 24) (hb hy d24_21) rfl (cells' := 0) (slots' := 0) rfl rfl (by decide) (by decide) (wy := []) (fun _ _ _ q => ⟨q.1, q.2.1⟩) all0 (fun _ _ => trivial) ?_
  intro v8 T8 h8 lo8 W8 K8 q8
  obtain rfl := q8.2.2
  show Gl _ _ _ _ _ _ _ _ []
  refine o_aloadN W8 (pc' := 25) (hb hy d24_24) rfl rfl rfl ?_
  refine o_aloadN W8 (pc' := 26) (hb hy d24_25) rfl rfl rfl ?_
  have c9 := (c7.keep K8 nin0)
  have c10 := ((F_a2_coder.keep K1 nin0).keep K8 nin0)
  have c11 := ((E_a2.keep K1).keep K8)
  have c12 := (c4.keep K8)
  refine o_private W8 (y := (⟨"java/lang/AbstractStringBuilder", "inflateIfNeededFor", "(Ljava/lang/AbstractStringBuilder;)V"⟩ : MethodName)) (w154 hw) (w155 hw) (w157 hw) (w156 hw) (w158 hw) (by decide) c12 (argsL := [(.ref a2)]) (CtrN.back (Wd := 0) W8 (rm8 l Z a0 hw gCS a1 a2 h8 W8.old SgCS NgCS c9 c11 c10) (w158 hw) (w19 hw) (by decide) (by decide)) (by rw [hml]; rfl) (lenOf pd4 rfl) (S := []) rfl (by exact Nat.le_of_eq rfl) (pc' := 29) (hb hy d24_26) rfl (cells' := 0) (slots' := 0) rfl rfl (by decide) (by decide) (wy := []) (fun _ _ _ q => ⟨q.1, q.2.1⟩) all0 (fun _ _ => trivial) ?_
  intro v13 T13 h13 lo13 W13 K13 q13
  obtain rfl := q13.2.2
  show Gl _ _ _ _ _ _ _ _ []
  refine o_aloadN W13 (pc' := 30) (hb hy d24_29) rfl rfl rfl ?_
  refine o_aloadN W13 (pc' := 31) (hb hy d24_30) rfl rfl rfl ?_
  have c14 := ((c5.keep K8 nin0).keep K13 nin0)
  refine o_getF W13 (w25 hw) Via.refl c14 (pc' := 34) (hb hy d24_31) rfl ?_
  intro T15 W15
  refine o_aloadN W15 (pc' := 35) (hb hy d24_34) rfl rfl rfl ?_
  have c16 := ((c2.keep K8 nin0).keep K13 nin0)
  refine o_getF W15 (w81 hw) Via.refl c16 (pc' := 38) (hb hy d24_35) rfl ?_
  intro T17 W17
  refine o_aloadN W17 (pc' := 39) (hb hy d24_38) rfl rfl rfl ?_
  have c18 := (c9.keep K13 nin0)
  refine o_getF W17 (w27 hw) Via.refl c18 (pc' := 42) (hb hy d24_39) rfl ?_
  intro T19 W19
  have c20 := (c10.keep K13 nin0)
  have c21 := (((F_a2_value.keep K1 nin0).keep K8 nin0).keep K13 nin0)
  have c22 := (((F_a2_count.keep K1 nin0).keep K8 nin0).keep K13 nin0)
  have c23 := (((V_a4.keep K1 nin0).keep K8 nin0).keep K13 nin0)
  have c24 := ((c6.keep K8 nin0).keep K13 nin0)
  have c25 := (c11.keep K13)
  refine o_virtual W19 (y := (⟨"java/lang/AbstractStringBuilder", "getBytes", "([BIB)V"⟩ : MethodName)) (z := (⟨"java/lang/AbstractStringBuilder", "getBytes", "([BIB)V"⟩ : MethodName)) (w164 hw) (w165 hw) (o_nf W19 rfl (w167 hw)) (w167 hw) (w166 hw) (by decide) c25 (argsL := [(.ref a3), (.int 0), (.int 0)]) (CtrN.back (Wd := 0) W19 (rm9 l Z a0 hw a2 a3 a4 k_a4 k_a3 h13 W19.old c20 c21 c22 c23 c24 g_a3) (w168 hw) (w19 hw) (by decide) (by decide)) (by rw [hml]; rfl) (lenOf pd5 rfl) (S := []) rfl (by exact Nat.le_of_eq rfl) (pc' := 45) (hb hy d24_42) rfl (cells' := 0) (slots' := 0) rfl rfl (by decide) (by decide) (wy := [a3]) (fun _ _ _ q => ⟨q.1, q.2.1⟩) (allS ⟨g_a3, (Or.inl (List.mem_of_getElem? (i := 0) rfl))⟩ all0) (fun _ _ => trivial) ?_
  intro v26 T26 h26 lo26 W26 K26 q26
  obtain ⟨P26_0, rfl⟩ := q26.2.2
  show Gl _ _ _ _ _ _ _ _ []
  refine o_aloadN W26 (pc' := 46) (hb hy d24_45) rfl rfl rfl ?_
  refine o_dup W26 (pc' := 47) (hb hy d24_46) rfl rfl ?_
  have c27 := ((c12.keep K13).keep K26)
  have c28 := (c12.keep K13)
  have c29 := (c16.keep K26 (ninS (Exa.neArv c28 c24 (w10 hw)) nin0))
  refine o_getF W26 (w81 hw) Via.refl c29 (pc' := 50) (hb hy d24_47) rfl ?_
  intro T30 W30
  refine o_iloadN W30 (pc' := 51) (hb hy d24_50) rfl rfl ?_
  refine o_iadd W30 (v := 0) (pc' := 52) (hb hy d24_51) (by decide) rfl ?_
  refine o_putF W30 (w81 hw) Via.refl c29 c27 (Or.inl (w82 hw)) (w10 hw) (ty := .int) (v' := (.int 0)) (by decide) rfl rfl g_a1 (Or.inl (List.mem_of_getElem? (i := 1) rfl)) (fun _ _ => trivial) (pc' := 55) (hb hy d24_52) rfl ?_
  intro T31 h31 lo31 W31 R31
  have F31 := c29.same R31
  refine o_aloadN W31 (pc' := 56) (hb hy d24_55) rfl rfl rfl ?_
  refine o_dup W31 (pc' := 57) (hb hy d24_56) rfl rfl ?_
  have c32 := (c27.wr R31)
  have c33 := (((((F_a1_maybeLatin1.keep K1 nin0).keep K8 nin0).keep K13 nin0).keep K26 (ninS (Exa.neArv c28 c24 (w10 hw)) nin0)).other R31 (Or.inr (slot_ne (Or.inl (w171 hw)) (Or.inl (w82 hw)) (by decide) (t := .boolean) (t' := .int) (by decide) (by decide))))
  refine o_getF W31 (w170 hw) Via.refl c33 (pc' := 60) (hb hy d24_57) rfl ?_
  intro T34 W34
  refine o_aloadN W34 (pc' := 61) (hb hy d24_60) rfl rfl rfl ?_
  have c35 := ((c25.keep K26).wr R31)
  have c36 := (((((F_a2_maybeLatin1.keep K1 nin0).keep K8 nin0).keep K13 nin0).keep K26 (ninS (Exa.neArv c25 c24 (w10 hw)) nin0)).other R31 (Or.inl (Ne.symm ne_a1_a2)))
  refine o_getF W34 (w170 hw) Via.refl c36 (pc' := 64) (hb hy d24_61) rfl ?_
  intro T37 W37
  refine o_ior W37 (v := 0) (pc' := 65) (hb hy d24_64) (by decide) rfl ?_
  refine o_putF W37 (w170 hw) Via.refl c33 c32 (Or.inl (w171 hw)) (w10 hw) (ty := .boolean) (v' := (.int 0)) (by decide) rfl (by decide) g_a1 (Or.inl (List.mem_of_getElem? (i := 1) rfl)) (fun _ _ => trivial) (pc' := 68) (hb hy d24_65) rfl ?_
  intro T38 h38 lo38 W38 R38
  have F38 := c33.same R38
  refine o_aloadN W38 (pc' := 69) (hb hy d24_68) rfl rfl rfl ?_
  have c39 := (F31.other R38 (Or.inr (slot_ne (Or.inl (w82 hw)) (Or.inl (w171 hw)) (by decide) (t := .int) (t' := .boolean) (by decide) (by decide))))
  have c40 := (c32.wr R38)
  have c41 := (((c14.keep K26 (ninS (Exa.neArv c28 c24 (w10 hw)) nin0)).other R31 (Or.inr (slot_ne (Or.inl (w26 hw)) (Or.inl (w82 hw)) (by decide) (t := (.array .byte)) (t' := .int) (by decide) (by decide)))).other R38 (Or.inr (slot_ne (Or.inl (w26 hw)) (Or.inl (w171 hw)) (by decide) (t := (.array .byte)) (t' := .boolean) (by decide) (by decide))))
  have c42 := (((c18.keep K26 (ninS (Exa.neArv c28 c24 (w10 hw)) nin0)).other R31 (Or.inr (slot_ne (Or.inl (w28 hw)) (Or.inl (w82 hw)) (by decide) (t := .byte) (t' := .int) (by decide) (by decide)))).other R38 (Or.inr (slot_ne (Or.inl (w28 hw)) (Or.inl (w171 hw)) (by decide) (t := .byte) (t' := .boolean) (by decide) (by decide))))
  have c43 := (P26_0.other R31 (Ne.symm (Exa.neArv c27 P26_0 (w10 hw))))
  have c44 := ((P26_0.other R31 (Ne.symm (Exa.neArv c27 P26_0 (w10 hw)))).other R38 (Ne.symm (Exa.neArv c32 c43 (w10 hw))))
  exact o_retA W38 hlk (v := (.ref a1)) hret rfl rfl (hb hy d24_69) (by decide) (by decide) ⟨c39, c41, c44, c42, F38, rfl⟩
theorem rm11 (l : Launch) (Z : State) (a0 : Array Value) (hw : ∀ d ∈ tables_1, d.before a0 Z = true) (gCS : Int32) (a1 a2 a3 : Addr) (k_a3 : ClassId) (a4 : Addr) (k_a4 : ClassId) (h0 : Heap) (O0 : Old Z Z.heap.size h0) (E_a2 : Exa Z h0 a2 "java/lang/StringBuilder") (E_a1 : Exa Z h0 a1 "java/lang/StringBuilder") (F_a2_count : Fld Z h0 a2 "java/lang/AbstractStringBuilder" "count" "I" (.int 0)) (F_a1_count : Fld Z h0 a1 "java/lang/AbstractStringBuilder" "count" "I" (.int 0)) (F_a1_value : Fld Z h0 a1 "java/lang/AbstractStringBuilder" "value" "[B" (.ref a3)) (V_a3 : Arv Z h0 a3 k_a3 .byte (16 : Int32) [(.int 0), (.int 0), (.int 0), (.int 0), (.int 0), (.int 0), (.int 0), (.int 0), (.int 0), (.int 0), (.int 0), (.int 0), (.int 0), (.int 0), (.int 0), (.int 0)] (.int 0)) (F_a1_coder : Fld Z h0 a1 "java/lang/AbstractStringBuilder" "coder" "B" (.int 0)) (SgCS : Sta Z Z.heap "java/lang/String" "COMPACT_STRINGS" "Z" (.int gCS)) (NgCS : ¬ (gCS = (0 : Int32))) (F_a2_coder : Fld Z h0 a2 "java/lang/AbstractStringBuilder" "coder" "B" (.int 0)) (F_a2_value : Fld Z h0 a2 "java/lang/AbstractStringBuilder" "value" "[B" (.ref a4)) (V_a4 : Arv Z h0 a4 k_a4 .byte (16 : Int32) [(.int 0), (.int 0), (.int 0), (.int 0), (.int 0), (.int 0), (.int 0), (.int 0), (.int 0), (.int 0), (.int 0), (.int 0), (.int 0), (.int 0), (.int 0), (.int 0)] (.int 0)) (F_a1_maybeLatin1 : Fld Z h0 a1 "java/lang/AbstractStringBuilder" "maybeLatin1" "Z" (.int 0)) (F_a2_maybeLatin1 : Fld Z h0 a2 "java/lang/AbstractStringBuilder" "maybeLatin1" "Z" (.int 0)) (g_a3 : Z.heap.size ≤ a3) (g_a1 : Z.heap.size ≤ a1) (ne_a1_a2 : a1 ≠ a2) :
    CtrN l Z (⟨"java/lang/AbstractStringBuilder", "append", "(Ljava/lang/CharSequence;)Ljava/lang/AbstractStringBuilder;"⟩ : MethodName) jdk_68_method_25_code 2 (some (.object "java/lang/AbstractStringBuilder")) [] (⟨3, 0, 0, 56⟩ : Room) #[(.ref a1), (.ref a2)] h0 [a1, a3] (fun v h => Fld Z h a1 "java/lang/AbstractStringBuilder" "count" "I" (.int 0) ∧ Fld Z h a1 "java/lang/AbstractStringBuilder" "value" "[B" (.ref a3) ∧ Arv Z h a3 k_a3 .byte (16 : Int32) [(.int 0), (.int 0), (.int 0), (.int 0), (.int 0), (.int 0), (.int 0), (.int 0), (.int 0), (.int 0), (.int 0), (.int 0), (.int 0), (.int 0), (.int 0), (.int 0)] (.int 0) ∧ Fld Z h a1 "java/lang/AbstractStringBuilder" "coder" "B" (.int 0) ∧ Fld Z h a1 "java/lang/AbstractStringBuilder" "maybeLatin1" "Z" (.int 0) ∧ v = some (.ref a1)) := by
  refine CtrN.intro (L0 := #[.val (.ref a1), .val (.ref a2)]) (plainFor_of_name pn0) O0 (own_entry rfl) ?_
  intro p e s m below meth c T0 hy hml hret hlk hnm W0
  refine o_aloadN W0 (pc' := 1) (hb hy d23_0) rfl rfl rfl ?_
  refine o_ifnonnullY W0 (pc' := 9) (hb hy d23_1) (by decide) rfl ?_
  refine o_aloadN W0 (pc' := 10) (hb hy d23_9) rfl rfl rfl ?_
  refine o_instN W0 (w137 hw) E_a2 (own_NSno (w68 hw) (w40 hw) (NS.step (w68 hw) (NS.step (w138 hw) (own_NSr (w139 hw) (w40 hw) (by decide)) (by decide)) (by decide)) (by decide)) (pc' := 13) (hb hy d23_10) rfl ?_
  intro T1 W1
  refine o_ifY W1 (pc' := 25) (hb hy d23_13) (XT.i0_eq_t (by decide)) (by decide) rfl ?_
  refine o_aloadN W1 (pc' := 26) (hb hy d23_25) rfl rfl rfl ?_
  refine o_instY W1 (w140 hw) (Ins.of_exa E_a2 (w18 hw)) (pc' := 29) (hb hy d23_26) rfl ?_
  intro T2 W2
  refine o_ifN W2 (pc' := 32) (hb hy d23_29) (XT.i0_eq_f (by decide)) rfl ?_
  refine o_aloadN W2 (pc' := 33) (hb hy d23_32) rfl rfl rfl ?_
  refine o_aloadN W2 (pc' := 34) (hb hy d23_33) rfl rfl rfl ?_
  refine o_cast W2 (w140 hw) (Ins.of_exa E_a2 (w18 hw)) (pc' := 37) (hb hy d23_34) rfl ?_
  intro T3 W3
  refine o_virtual W3 (y := (⟨"java/lang/AbstractStringBuilder", "append", "(Ljava/lang/AbstractStringBuilder;)Ljava/lang/AbstractStringBuilder;"⟩ : MethodName)) (z := (⟨"java/lang/AbstractStringBuilder", "append", "(Ljava/lang/AbstractStringBuilder;)Ljava/lang/AbstractStringBuilder;"⟩ : MethodName)) (w141 hw) (w142 hw) (o_nf W3 rfl (w144 hw)) (w144 hw) (w143 hw) (by decide) E_a1 (argsL := [(.ref a2)]) (CtrN.back (Wd := 0) W3 (rm10 l Z a0 hw gCS a1 a2 a3 k_a3 a4 k_a4 h0 W3.old E_a2 F_a2_count F_a1_count E_a1 F_a1_value V_a3 F_a1_coder SgCS NgCS F_a2_coder F_a2_value V_a4 g_a3 g_a1 F_a1_maybeLatin1 F_a2_maybeLatin1 ne_a1_a2) (w145 hw) (w19 hw) (by decide) (by decide)) (by rw [hml]; rfl) (lenOf pd6 rfl) (S := []) rfl (by exact Nat.le_of_eq rfl) (pc' := 40) (hb hy d23_37) rfl (cells' := 0) (slots' := 0) rfl rfl (by decide) (by decide) (wy := [a3, a1]) (fun _ _ _ q => ⟨q.1, q.2.1⟩) (allS ⟨g_a3, (Or.inl (List.mem_of_getElem? (i := 1) rfl))⟩ (allS ⟨g_a1, (Or.inl (List.mem_of_getElem? (i := 0) rfl))⟩ all0)) (fun _ _ => trivial) ?_
  intro v4 T4 h4 lo4 W4 K4 q4
  obtain ⟨P4_0, P4_1, P4_2, P4_3, P4_4, rfl⟩ := q4.2.2
  show Gl _ _ _ _ _ _ _ _ [(.ref a1)]
  have c5 := (E_a1.keep K4)
  exact o_retA W4 hlk (v := (.ref a1)) hret rfl rfl (hb hy d23_40) (by decide) (by decide) ⟨P4_0, P4_1, P4_2, P4_3, P4_4, rfl⟩
theorem rm12 (l : Launch) (Z : State) (a0 : Array Value) (hw : ∀ d ∈ tables_1, d.before a0 Z = true) (gCS : Int32) (a1 a2 a3 : Addr) (k_a3 : ClassId) (a4 : Addr) (k_a4 : ClassId) (h0 : Heap) (O0 : Old Z Z.heap.size h0) (E_a2 : Exa Z h0 a2 "java/lang/StringBuilder") (E_a1 : Exa Z h0 a1 "java/lang/StringBuilder") (F_a2_count : Fld Z h0 a2 "java/lang/AbstractStringBuilder" "count" "I" (.int 0)) (F_a1_count : Fld Z h0 a1 "java/lang/AbstractStringBuilder" "count" "I" (.int 0)) (F_a1_value : Fld Z h0 a1 "java/lang/AbstractStringBuilder" "value" "[B" (.ref a3)) (V_a3 : Arv Z h0 a3 k_a3 .byte (16 : Int32) [(.int 0), (.int 0), (.int 0), (.int 0), (.int 0), (.int 0), (.int 0), (.int 0), (.int 0), (.int 0), (.int 0), (.int 0), (.int 0), (.int 0), (.int 0), (.int 0)] (.int 0)) (F_a1_coder : Fld Z h0 a1 "java/lang/AbstractStringBuilder" "coder" "B" (.int 0)) (SgCS : Sta Z Z.heap "java/lang/String" "COMPACT_STRINGS" "Z" (.int gCS)) (NgCS : ¬ (gCS = (0 : Int32))) (F_a2_coder : Fld Z h0 a2 "java/lang/AbstractStringBuilder" "coder" "B" (.int 0)) (F_a2_value : Fld Z h0 a2 "java/lang/AbstractStringBuilder" "value" "[B" (.ref a4)) (V_a4 : Arv Z h0 a4 k_a4 .byte (16 : Int32) [(.int 0), (.int 0), (.int 0), (.int 0), (.int 0), (.int 0), (.int 0), (.int 0), (.int 0), (.int 0), (.int 0), (.int 0), (.int 0), (.int 0), (.int 0), (.int 0)] (.int 0)) (F_a1_maybeLatin1 : Fld Z h0 a1 "java/lang/AbstractStringBuilder" "maybeLatin1" "Z" (.int 0)) (F_a2_maybeLatin1 : Fld Z h0 a2 "java/lang/AbstractStringBuilder" "maybeLatin1" "Z" (.int 0)) (g_a3 : Z.heap.size ≤ a3) (g_a1 : Z.heap.size ≤ a1) (ne_a1_a2 : a1 ≠ a2) :
    CtrN l Z (⟨"java/lang/StringBuilder", "append", "(Ljava/lang/CharSequence;)Ljava/lang/StringBuilder;"⟩ : MethodName) jdk_67_method_9_code 2 (some (.object "java/lang/StringBuilder")) [] (⟨4, 0, 0, 69⟩ : Room) #[(.ref a1), (.ref a2)] h0 [a3, a1] (fun v h => Fld Z h a1 "java/lang/AbstractStringBuilder" "count" "I" (.int 0) ∧ Fld Z h a1 "java/lang/AbstractStringBuilder" "value" "[B" (.ref a3) ∧ Arv Z h a3 k_a3 .byte (16 : Int32) [(.int 0), (.int 0), (.int 0), (.int 0), (.int 0), (.int 0), (.int 0), (.int 0), (.int 0), (.int 0), (.int 0), (.int 0), (.int 0), (.int 0), (.int 0), (.int 0)] (.int 0) ∧ Fld Z h a1 "java/lang/AbstractStringBuilder" "coder" "B" (.int 0) ∧ Fld Z h a1 "java/lang/AbstractStringBuilder" "maybeLatin1" "Z" (.int 0) ∧ v = some (.ref a1)) := by
  refine CtrN.intro (L0 := #[.val (.ref a1), .val (.ref a2)]) (plainFor_of_name pn1) O0 (own_entry rfl) ?_
  intro p e s m below meth c T0 hy hml hret hlk hnm W0
  refine o_aloadN W0 (pc' := 1) (hb hy d22_0) rfl rfl rfl ?_
  refine o_aloadN W0 (pc' := 2) (hb hy d22_1) rfl rfl rfl ?_
  refine o_super W0 (y := (⟨"java/lang/AbstractStringBuilder", "append", "(Ljava/lang/CharSequence;)Ljava/lang/AbstractStringBuilder;"⟩ : MethodName)) (by decide) (w133 hw) (w134 hw) (own_sameM (y := (⟨"java/lang/AbstractStringBuilder", "append", "(Ljava/lang/CharSequence;)Ljava/lang/AbstractStringBuilder;"⟩ : MethodName)) (by decide) (w134 hw) (w138 hw)) (w68 hw) (w136 hw) (Ins.self E_a1) (argsL := [(.ref a2)]) (CtrN.back (Wd := 0) W0 (rm11 l Z a0 hw gCS a1 a2 a3 k_a3 a4 k_a4 h0 W0.old E_a2 E_a1 F_a2_count F_a1_count F_a1_value V_a3 F_a1_coder SgCS NgCS F_a2_coder F_a2_value V_a4 F_a1_maybeLatin1 F_a2_maybeLatin1 g_a3 g_a1 ne_a1_a2) (w136 hw) (w19 hw) (by decide) (by decide)) (by rw [hml]; rfl) (lenOf pd7 rfl) (S := []) rfl (by exact Nat.le_of_eq rfl) (pc' := 5) (hb hy d22_2) rfl (cells' := 0) (slots' := 0) rfl rfl (by decide) (by decide) (wy := [a1, a3]) (fun _ _ _ q => ⟨q.1, q.2.1⟩) (allS ⟨g_a1, (Or.inl (List.mem_of_getElem? (i := 1) rfl))⟩ (allS ⟨g_a3, (Or.inl (List.mem_of_getElem? (i := 0) rfl))⟩ all0)) (fun _ _ => trivial) ?_
  intro v1 T1 h1 lo1 W1 K1 q1
  obtain ⟨P1_0, P1_1, P1_2, P1_3, P1_4, rfl⟩ := q1.2.2
  show Gl _ _ _ _ _ _ _ _ [(.ref a1)]
  refine o_pop W1 (pc' := 6) (hb hy d22_5) rfl rfl ?_
  refine o_aloadN W1 (pc' := 7) (hb hy d22_6) rfl rfl rfl ?_
  have c2 := (E_a1.keep K1)
  exact o_retA W1 hlk (v := (.ref a1)) hret rfl rfl (hb hy d22_7) (by decide) (by decide) ⟨P1_0, P1_1, P1_2, P1_3, P1_4, rfl⟩
theorem rm13 (l : Launch) (Z : State) (a0 : Array Value) (hw : ∀ d ∈ tables_1, d.before a0 Z = true) (gCS : Int32) (a1 a2 a3 a4 a5 : Addr) (k_a5 : ClassId) (a6 : Addr) (k_a6 : ClassId) (h0 : Heap) (O0 : Old Z Z.heap.size h0) (F_a1_out : Fld Z h0 a1 "com/example/colophon/colophon/api/Html" "out" "Ljava/lang/StringBuilder;" (.ref a3)) (F_a2_out : Fld Z h0 a2 "com/example/colophon/colophon/api/Html" "out" "Ljava/lang/StringBuilder;" (.ref a4)) (E_a3 : Exa Z h0 a3 "java/lang/StringBuilder") (E_a4 : Exa Z h0 a4 "java/lang/StringBuilder") (F_a4_count : Fld Z h0 a4 "java/lang/AbstractStringBuilder" "count" "I" (.int 0)) (F_a3_count : Fld Z h0 a3 "java/lang/AbstractStringBuilder" "count" "I" (.int 0)) (F_a3_value : Fld Z h0 a3 "java/lang/AbstractStringBuilder" "value" "[B" (.ref a5)) (V_a5 : Arv Z h0 a5 k_a5 .byte (16 : Int32) [(.int 0), (.int 0), (.int 0), (.int 0), (.int 0), (.int 0), (.int 0), (.int 0), (.int 0), (.int 0), (.int 0), (.int 0), (.int 0), (.int 0), (.int 0), (.int 0)] (.int 0)) (F_a3_coder : Fld Z h0 a3 "java/lang/AbstractStringBuilder" "coder" "B" (.int 0)) (SgCS : Sta Z Z.heap "java/lang/String" "COMPACT_STRINGS" "Z" (.int gCS)) (NgCS : ¬ (gCS = (0 : Int32))) (F_a4_coder : Fld Z h0 a4 "java/lang/AbstractStringBuilder" "coder" "B" (.int 0)) (F_a4_value : Fld Z h0 a4 "java/lang/AbstractStringBuilder" "value" "[B" (.ref a6)) (V_a6 : Arv Z h0 a6 k_a6 .byte (16 : Int32) [(.int 0), (.int 0), (.int 0), (.int 0), (.int 0), (.int 0), (.int 0), (.int 0), (.int 0), (.int 0), (.int 0), (.int 0), (.int 0), (.int 0), (.int 0), (.int 0)] (.int 0)) (F_a3_maybeLatin1 : Fld Z h0 a3 "java/lang/AbstractStringBuilder" "maybeLatin1" "Z" (.int 0)) (F_a4_maybeLatin1 : Fld Z h0 a4 "java/lang/AbstractStringBuilder" "maybeLatin1" "Z" (.int 0)) (g_a5 : Z.heap.size ≤ a5) (g_a3 : Z.heap.size ≤ a3) (ne_a3_a4 : a3 ≠ a4) :
    CtrN l Z (⟨"com/example/colophon/colophon/api/Html", "append", "(Lcom/example/colophon/colophon/api/Html;)Lcom/example/colophon/colophon/api/Html;"⟩ : MethodName) prog_5_method_7_code 2 (some (.object "com/example/colophon/colophon/api/Html")) [] (⟨5, 0, 0, 82⟩ : Room) #[(.ref a1), (.ref a2)] h0 [a3, a5] (fun v h => Fld Z h a3 "java/lang/AbstractStringBuilder" "count" "I" (.int 0) ∧ Fld Z h a3 "java/lang/AbstractStringBuilder" "value" "[B" (.ref a5) ∧ Arv Z h a5 k_a5 .byte (16 : Int32) [(.int 0), (.int 0), (.int 0), (.int 0), (.int 0), (.int 0), (.int 0), (.int 0), (.int 0), (.int 0), (.int 0), (.int 0), (.int 0), (.int 0), (.int 0), (.int 0)] (.int 0) ∧ Fld Z h a3 "java/lang/AbstractStringBuilder" "coder" "B" (.int 0) ∧ Fld Z h a3 "java/lang/AbstractStringBuilder" "maybeLatin1" "Z" (.int 0) ∧ v = some (.ref a1)) := by
  refine CtrN.intro (L0 := #[.val (.ref a1), .val (.ref a2)]) (plainFor_of_name pn2) O0 (own_entry rfl) ?_
  intro p e s m below meth c T0 hy hml hret hlk hnm W0
  refine o_aloadN W0 (pc' := 1) (hb hy d21_0) rfl rfl rfl ?_
  refine o_getF W0 (w29 hw) Via.refl F_a1_out (pc' := 4) (hb hy d21_1) rfl ?_
  intro T1 W1
  refine o_aloadN W1 (pc' := 5) (hb hy d21_4) rfl rfl rfl ?_
  refine o_getF W1 (w29 hw) Via.refl F_a2_out (pc' := 8) (hb hy d21_5) rfl ?_
  intro T2 W2
  refine o_virtual W2 (y := (⟨"java/lang/StringBuilder", "append", "(Ljava/lang/CharSequence;)Ljava/lang/StringBuilder;"⟩ : MethodName)) (z := (⟨"java/lang/StringBuilder", "append", "(Ljava/lang/CharSequence;)Ljava/lang/StringBuilder;"⟩ : MethodName)) (w128 hw) (w129 hw) (o_nf W2 rfl (w131 hw)) (w131 hw) (w130 hw) (by decide) E_a3 (argsL := [(.ref a4)]) (CtrN.back (Wd := 0) W2 (rm12 l Z a0 hw gCS a3 a4 a5 k_a5 a6 k_a6 h0 W2.old E_a4 E_a3 F_a4_count F_a3_count F_a3_value V_a5 F_a3_coder SgCS NgCS F_a4_coder F_a4_value V_a6 F_a3_maybeLatin1 F_a4_maybeLatin1 g_a5 g_a3 ne_a3_a4) (w132 hw) (w11 hw) (by decide) (by decide)) (by rw [hml]; rfl) (lenOf pd8 rfl) (S := []) rfl (by exact Nat.le_of_eq rfl) (pc' := 11) (hb hy d21_8) rfl (cells' := 0) (slots' := 0) rfl rfl (by decide) (by decide) (wy := [a5, a3]) (fun _ _ _ q => ⟨q.1, q.2.1⟩) (allS ⟨g_a5, (Or.inl (List.mem_of_getElem? (i := 1) rfl))⟩ (allS ⟨g_a3, (Or.inl (List.mem_of_getElem? (i := 0) rfl))⟩ all0)) (fun _ _ => trivial) ?_
  intro v3 T3 h3 lo3 W3 K3 q3
  obtain ⟨P3_0, P3_1, P3_2, P3_3, P3_4, rfl⟩ := q3.2.2
  show Gl _ _ _ _ _ _ _ _ [(.ref a3)]
  refine o_pop W3 (pc' := 12) (hb hy d21_11) rfl rfl ?_
  refine o_aloadN W3 (pc' := 13) (hb hy d21_12) rfl rfl rfl ?_
  have c4 := (E_a3.keep K3)
  exact o_retA W3 hlk (v := (.ref a1)) hret rfl rfl (hb hy d21_13) (by decide) (by decide) ⟨P3_0, P3_1, P3_2, P3_3, P3_4, rfl⟩
theorem rm14 (l : Launch) (Z : State) (a0 : Array Value) (hw : ∀ d ∈ tables_1, d.before a0 Z = true) (x1 : Int32) (h0 : Heap) (O0 : Old Z Z.heap.size h0) (hu1 : own_b x1) :
    CtrN l Z (⟨"java/lang/StringLatin1", "canEncode", "(C)Z"⟩ : MethodName) jdk_43_method_3_code 1 (some .boolean) [] (⟨0, 0, 0, 0⟩ : Room) #[(.int x1)] h0 [] (fun v h => v = some (.int 1)) := by
  refine CtrN.intro (L0 := #[.val (.int x1)]) (plainFor_of_name pn3) O0 (own_entry rfl) ?_
  intro p e s m below meth c T0 hy hml hret hlk hnm W0
  refine o_iloadN W0 (pc' := 1) (hb hy d6_0) rfl rfl ?_
  refine o_sipush W0 (v := 255) (pc' := 4) (hb hy d6_1) (by decide) rfl ?_
  refine o_icmpN W0 (pc' := 7) (hb hy d6_4) (XT.ii_gt_f hu1.2) rfl ?_
  refine o_iconst W0 (v := 1) (pc' := 8) (hb hy d6_7) rfl rfl ?_
  refine o_goto W0 (pc' := 12) (hb hy d6_8) (by decide) rfl ?_
  exact o_retN W0 hlk (t := .boolean) hret (by simp) (z' := (1 : Int32)) (by decide) (hb hy d6_12) (by decide) (by decide) rfl
theorem rm15 (l : Launch) (Z : State) (a0 : Array Value) (hw : ∀ d ∈ tables_1, d.before a0 Z = true) (x1 : Int32) (h0 : Heap) (O0 : Old Z Z.heap.size h0) :
    CtrN l Z (⟨"java/lang/StringLatin1", "toBytes", "(C)[B"⟩ : MethodName) jdk_43_method_46_code 1 (some (.array .byte)) [] (⟨0, 1, 1, 0⟩ : Room) #[(.int x1)] h0 [] (fun v h => ∃ r1 : Addr, ∃ r2 : ClassId, h0.size ≤ r1 ∧ Arv Z h r1 r2 .byte (1 : Int32) [(.int (x1.toInt8.toInt32))] (.int 0) ∧ v = some (.ref r1)) := by
  refine CtrN.intro (L0 := #[.val (.int x1)]) (plainFor_of_name pn3) O0 (own_entry rfl) ?_
  intro p e s m below meth c T0 hy hml hret hlk hnm W0
  refine o_iconst W0 (v := 1) (pc' := 1) (hb hy d7_0) rfl rfl ?_
  refine o_newP W0 (aty := .byte) (w24 hw) (fun _ _ => trivial) (by decide) (cap := 1) (by decide) (by decide) (pc' := 3) (hb hy d7_1) rfl (cells' := 1) (slots' := 1) rfl rfl (by decide) (by decide) (vs := [(.int 0)]) (dv := (.int 0)) rfl rfl ?_
  intro b1 T1 h1 k1 W1 E1 ge1 gz1 gb1 V1
  refine o_dup W1 (pc' := 4) (hb hy d7_3) rfl rfl ?_
  refine o_iconst W1 (v := 0) (pc' := 5) (hb hy d7_4) rfl rfl ?_
  refine o_iloadN W1 (pc' := 6) (hb hy d7_5) rfl rfl ?_
  refine o_i2b W1 (v := (x1.toInt8.toInt32)) (pc' := 7) (hb hy d7_6) rfl rfl ?_
  refine o_stB W1 V1 (i := 0) (x' := (x1.toInt8.toInt32)) (by decide) (by decide) (by decide) (Nat.lt_of_sub_eq_succ rfl) (own_b8 _) (vs' := [(.int (x1.toInt8.toInt32))]) rfl gz1 (Or.inr gb1) (fun _ _ => trivial) (pc' := 8) (hb hy d7_7) rfl ?_
  intro T2 h2 lo2 W2 R2 V2
  exact o_retA W2 hlk (v := (.ref b1)) hret rfl rfl (hb hy d7_8) (by decide) (by decide) ⟨b1, k1, gb1, V2, rfl⟩
theorem rm16 (l : Launch) (Z : State) (a0 : Array Value) (hw : ∀ d ∈ tables_1, d.before a0 Z = true) (a1 a2 : Addr) (h0 : Heap) (O0 : Old Z Z.heap.size h0) (E_a1 : Exa Z h0 a1 "java/lang/String") (F_a1_value : Fld Z h0 a1 "java/lang/String" "value" "[B" .null) (g_a1 : Z.heap.size ≤ a1) (F_a1_coder : Fld Z h0 a1 "java/lang/String" "coder" "B" (.int 0)) :
    CtrN l Z (⟨"java/lang/String", "<init>", "([BB)V"⟩ : MethodName) jdk_42_method_151_code 3 none [] (⟨1, 0, 0, 12⟩ : Room) #[(.ref a1), (.ref a2), (.int 0)] h0 [a1] (fun v h => Fld Z h a1 "java/lang/String" "value" "[B" (.ref a2) ∧ Fld Z h a1 "java/lang/String" "coder" "B" (.int 0) ∧ v = none) := by
  refine CtrN.intro (L0 := #[.val (.ref a1), .val (.ref a2), .val (.int 0)]) (plainFor_of_name pn4) O0 (own_entry rfl) ?_
  intro p e s m below meth c T0 hy hml hret hlk hnm W0
  refine o_aloadN W0 (pc' := 1) (hb hy d8_0) rfl rfl rfl ?_
  refine o_initO W0 (w48 hw) (w7 hw) (w8 hw) (by rw [hml]; rfl) (pc' := 4) (hb hy d8_1) rfl (by decide) 0 (by exact Nat.le_of_eq rfl) (by decide) ?_
  intro T1 W1
  refine o_aloadN W1 (pc' := 5) (hb hy d8_4) rfl rfl rfl ?_
  refine o_aloadN W1 (pc' := 6) (hb hy d8_5) rfl rfl rfl ?_
  refine o_putF W1 (w49 hw) Via.refl F_a1_value E_a1 (Or.inr ⟨(w50 hw), rfl, hnm⟩) (w40 hw) (ty := (.array .byte)) (v' := (.ref a2)) (by decide) rfl rfl g_a1 (Or.inl (List.mem_of_getElem? (i := 0) rfl)) (fun _ _ => trivial) (pc' := 9) (hb hy d8_6) rfl ?_
  intro T2 h2 lo2 W2 R2
  have F2 := F_a1_value.same R2
  refine o_aloadN W2 (pc' := 10) (hb hy d8_9) rfl rfl rfl ?_
  refine o_iloadN W2 (pc' := 11) (hb hy d8_10) rfl rfl ?_
  have c3 := (E_a1.wr R2)
  have c4 := (F_a1_coder.other R2 (Or.inr (slot_ne (Or.inr (w52 hw)) (Or.inr (w50 hw)) (by decide) (t := .byte) (t' := (.array .byte)) (by decide) (by decide))))
  refine o_putF W2 (w51 hw) Via.refl c4 c3 (Or.inr ⟨(w52 hw), rfl, hnm⟩) (w40 hw) (ty := .byte) (v' := (.int 0)) (by decide) rfl (by decide) g_a1 (Or.inl (List.mem_of_getElem? (i := 0) rfl)) (fun _ _ => trivial) (pc' := 14) (hb hy d8_11) rfl ?_
  intro T5 h5 lo5 W5 R5
  have F5 := c4.same R5
  have c6 := (F2.other R5 (Or.inr (slot_ne (Or.inr (w50 hw)) (Or.inr (w52 hw)) (by decide) (t := (.array .byte)) (t' := .byte) (by decide) (by decide))))
  have c7 := (c3.wr R5)
  exact o_ret0 W5 hlk hret (hb hy d8_14) (by decide) (by decide) ⟨c6, F5, rfl⟩
theorem rm17 (l : Launch) (Z : State) (a0 : Array Value) (hw : ∀ d ∈ tables_1, d.before a0 Z = true) (gCS x1 : Int32) (h0 : Heap) (O0 : Old Z Z.heap.size h0) (SgCS : Sta Z Z.heap "java/lang/String" "COMPACT_STRINGS" "Z" (.int gCS)) (NgCS : ¬ (gCS = (0 : Int32))) (hu2 : own_b x1) :
    CtrN l Z (⟨"java/lang/String", "valueOf", "(C)Ljava/lang/String;"⟩ : MethodName) jdk_42_method_139_code 1 (some (.object "java/lang/String")) [] (⟨2, 2, 5, 27⟩ : Room) #[(.int x1)] h0 [] (fun v h => ∃ r1 : Addr, ∃ r2 : Addr, ∃ r3 : ClassId, h0.size ≤ r1 ∧ h0.size ≤ r2 ∧ Exa Z h r1 "java/lang/String" ∧ Fld Z h r1 "java/lang/String" "value" "[B" (.ref r2) ∧ Fld Z h r1 "java/lang/String" "coder" "B" (.int 0) ∧ Arv Z h r2 r3 .byte (1 : Int32) [(.int (x1.toInt8.toInt32))] (.int 0) ∧ v = some (.ref r1)) := by
  refine CtrN.intro (L0 := #[.val (.int x1)]) (plainFor_of_name pn4) O0 (own_entry rfl) ?_
  intro p e s m below meth c T0 hy hml hret hlk hnm W0
  refine o_getS W0 (w34 hw) Via.refl (SgCS.ext W0.ox) (pc' := 3) (hb hy d5_0) rfl ?_
  intro T1 W1
  refine o_ifN W1 (pc' := 6) (hb hy d5_3) (XT.i0_eq_f NgCS) rfl ?_
  refine o_iloadN W1 (pc' := 7) (hb hy d5_6) rfl rfl ?_
  refine o_static W1 (y := (⟨"java/lang/StringLatin1", "canEncode", "(C)Z"⟩ : MethodName)) (w35 hw) (w36 hw) (w37 hw) (w38 hw) (by decide) (argsL := [(.int x1)]) (CtrN.back (Wd := 0) W1 (rm14 l Z a0 hw x1 h0 W1.old hu2) (w38 hw) (w37 hw) (by decide) (by decide)) (by rw [hml]; rfl) (lenOf pd10 rfl) (S := []) rfl (by exact Nat.le_of_eq rfl) (pc' := 10) (hb hy d5_7) rfl (cells' := 0) (slots' := 0) rfl rfl (by decide) (by decide) (wy := []) (fun _ _ _ q => ⟨q.1, q.2.1⟩) all0 (fun _ _ => trivial) ?_
  intro v3 T3 h3 lo3 W3 K3 q3
  obtain rfl := q3.2.2
  show Gl _ _ _ _ _ _ _ _ [(.int 1)]
  refine o_ifN W3 (pc' := 13) (hb hy d5_10) (XT.i0_eq_f (by decide)) rfl ?_
  refine o_new W3 (w39 hw) (w40 hw) (w23 hw) (fun _ _ => trivial) (pc' := 16) (hb hy d5_13) rfl (cells' := 1) (slots' := 4) rfl rfl (by decide) (by decide) ?_
  intro b4 T4 h4 W4 E4 ge4 gz4 gb4 A4 D4
  have Fb4_value : Fld Z h4 b4 "java/lang/String" "value" "[B" .null := D4 (Or.inr (w50 hw)) (ty := (.array .byte)) (by decide)
  have Fb4_coder : Fld Z h4 b4 "java/lang/String" "coder" "B" (.int 0) := D4 (Or.inr (w52 hw)) (ty := .byte) (by decide)
  refine o_dup W4 (pc' := 17) (hb hy d5_16) rfl rfl ?_
  refine o_iloadN W4 (pc' := 18) (hb hy d5_17) rfl rfl ?_
  refine o_static W4 (y := (⟨"java/lang/StringLatin1", "toBytes", "(C)[B"⟩ : MethodName)) (w41 hw) (w42 hw) (w37 hw) (w43 hw) (by decide) (argsL := [(.int x1)]) (CtrN.back (Wd := 2) W4 (rm15 l Z a0 hw x1 h4 W4.old ) (w43 hw) (w37 hw) (by decide) (by decide)) (by rw [hml]; rfl) (lenOf pd11 rfl) (S := [(.ref b4), (.ref b4)]) rfl (by exact Nat.le_of_eq rfl) (pc' := 21) (hb hy d5_18) rfl (cells' := 2) (slots' := 5) rfl rfl (by decide) (by decide) (wy := []) (fun _ _ _ q => ⟨q.1, q.2.1⟩) all0 (fun _ _ => trivial) ?_
  intro v5 T5 h5 lo5 W5 K5 q5
  obtain ⟨r1_5, r2_5, P5_0, P5_1, rfl⟩ := q5.2.2
  show Gl _ _ _ _ _ _ _ _ [(.ref r1_5), (.ref b4), (.ref b4)]
  refine o_iconst W5 (v := 0) (pc' := 22) (hb hy d5_21) rfl rfl ?_
  have c6 := (Fb4_value.keep K5 nin0)
  have c7 := (Fb4_coder.keep K5 nin0)
  have c8 := (A4.keep K5)
  refine o_special W5 (y := (⟨"java/lang/String", "<init>", "([BB)V"⟩ : MethodName)) rfl (w44 hw) (w45 hw) (w47 hw) (by decide) (a := b4) (argsL := [(.ref r1_5), (.int 0)]) (CtrN.back (Wd := 1) W5 (rm16 l Z a0 hw b4 r1_5 h5 W5.old c8 c6 gz4 c7) (w47 hw) (w23 hw) (by decide) (by decide)) (by rw [hml]; rfl) (lenOf pd12 rfl) (S := [(.ref b4)]) rfl (by exact Nat.le_of_eq rfl) (pc' := 25) (hb hy d5_22) rfl (cells' := 2) (slots' := 5) rfl rfl (by decide) (by decide) (wy := [b4]) (fun _ _ _ q => ⟨q.1, q.2.1⟩) (allS ⟨gz4, (Or.inr gb4)⟩ all0) (fun _ _ => trivial) ?_
  intro v9 T9 h9 lo9 W9 K9 q9
  obtain ⟨P9_0, P9_1, rfl⟩ := q9.2.2
  show Gl _ _ _ _ _ _ _ _ [(.ref b4)]
  have c10 := (c8.keep K9)
  have c11 := (P5_1.keep K9 (ninS (own_ne' A4.lt P5_0) nin0))
  exact o_retA W9 hlk (v := (.ref b4)) hret rfl rfl (hb hy d5_25) (by decide) (by decide) ⟨b4, r1_5, r2_5, gb4, (Nat.le_trans W4.keep.1 P5_0), c10, P9_0, P9_1, c11, rfl⟩
theorem rm18 (l : Launch) (Z : State) (a0 : Array Value) (hw : ∀ d ∈ tables_1, d.before a0 Z = true) (gCS : Int32) (a1 : Addr) (h0 : Heap) (O0 : Old Z Z.heap.size h0) (SgCS : Sta Z Z.heap "java/lang/String" "COMPACT_STRINGS" "Z" (.int gCS)) (NgCS : ¬ (gCS = (0 : Int32))) (F_a1_coder : Fld Z h0 a1 "java/lang/String" "coder" "B" (.int 0)) :
    CtrN l Z (⟨"java/lang/String", "coder", "()B"⟩ : MethodName) jdk_42_method_152_code 1 (some .byte) [] (⟨0, 0, 0, 0⟩ : Room) #[(.ref a1)] h0 [] (fun v h => v = some (.int 0)) := by
  refine CtrN.intro (L0 := #[.val (.ref a1)]) (plainFor_of_name pn4) O0 (own_entry rfl) ?_
  intro p e s m below meth c T0 hy hml hret hlk hnm W0
  refine o_getS W0 (w34 hw) Via.refl (SgCS.ext W0.ox) (pc' := 3) (hb hy d13_0) rfl ?_
  intro T1 W1
  refine o_ifN W1 (pc' := 6) (hb hy d13_3) (XT.i0_eq_f NgCS) rfl ?_
  refine o_aloadN W1 (pc' := 7) (hb hy d13_6) rfl rfl rfl ?_
  refine o_getF W1 (w51 hw) Via.refl F_a1_coder (pc' := 10) (hb hy d13_7) rfl ?_
  intro T2 W2
  refine o_goto W2 (pc' := 14) (hb hy d13_10) (by decide) rfl ?_
  exact o_retN W2 hlk (t := .byte) hret (by simp) (z' := (0 : Int32)) (by decide) (hb hy d13_14) (by decide) (by decide) rfl
theorem rm19 (l : Launch) (Z : State) (a0 : Array Value) (hw : ∀ d ∈ tables_1, d.before a0 Z = true) (gCS : Int32) (a1 a2 : Addr) (k_a2 : ClassId) (h0 : Heap) (O0 : Old Z Z.heap.size h0) (F_a1_value : Fld Z h0 a1 "java/lang/String" "value" "[B" (.ref a2)) (V_a2 : Arv Z h0 a2 k_a2 .byte (2 : Int32) [(.int (StrChars.lo8 (60 : Int32))), (.int (StrChars.lo8 (47 : Int32)))] (.int 0)) (E_a1 : Exa Z h0 a1 "java/lang/String") (SgCS : Sta Z Z.heap "java/lang/String" "COMPACT_STRINGS" "Z" (.int gCS)) (NgCS : ¬ (gCS = (0 : Int32))) (F_a1_coder : Fld Z h0 a1 "java/lang/String" "coder" "B" (.int 0)) :
    CtrN l Z (⟨"java/lang/String", "length", "()I"⟩ : MethodName) jdk_42_method_54_code 1 (some .int) [] (⟨1, 0, 0, 13⟩ : Room) #[(.ref a1)] h0 [] (fun v h => v = some (.int 2)) := by
  refine CtrN.intro (L0 := #[.val (.ref a1)]) (plainFor_of_name pn4) O0 (own_entry rfl) ?_
  intro p e s m below meth c T0 hy hml hret hlk hnm W0
  refine o_aloadN W0 (pc' := 1) (hb hy d12_0) rfl rfl rfl ?_
  refine o_getF W0 (w49 hw) Via.refl F_a1_value (pc' := 4) (hb hy d12_1) rfl ?_
  intro T1 W1
  refine o_len W1 V_a2 (pc' := 5) (hb hy d12_4) rfl ?_
  refine o_aloadN W1 (pc' := 6) (hb hy d12_5) rfl rfl rfl ?_
  refine o_virtual W1 (y := (⟨"java/lang/String", "coder", "()B"⟩ : MethodName)) (z := (⟨"java/lang/String", "coder", "()B"⟩ : MethodName)) (w76 hw) (w77 hw) (o_nf W1 rfl (w79 hw)) (w79 hw) (w78 hw) (by decide) E_a1 (argsL := []) (CtrN.back (Wd := 1) W1 (rm18 l Z a0 hw gCS a1 h0 W1.old SgCS NgCS F_a1_coder) (w80 hw) (w23 hw) (by decide) (by decide)) (by rw [hml]; rfl) (lenOf pd3 rfl) (S := [(.int 2)]) rfl (by exact Nat.le_of_eq rfl) (pc' := 9) (hb hy d12_6) rfl (cells' := 0) (slots' := 0) rfl rfl (by decide) (by decide) (wy := []) (fun _ _ _ q => ⟨q.1, q.2.1⟩) all0 (fun _ _ => trivial) ?_
  intro v2 T2 h2 lo2 W2 K2 q2
  obtain rfl := q2.2.2
  show Gl _ _ _ _ _ _ _ _ [(.int 0), (.int 2)]
  refine o_ishr W2 (v := 2) (pc' := 10) (hb hy d12_9) (by decide) rfl ?_
  exact o_retI W2 hlk hret (hb hy d12_10) (by decide) (by decide) rfl
theorem rm20 (l : Launch) (Z : State) (a0 : Array Value) (hw : ∀ d ∈ tables_1, d.before a0 Z = true) (a1 a2 : Addr) (k_a2 : ClassId) (h0 : Heap) (O0 : Old Z Z.heap.size h0) (F_a1_value : Fld Z h0 a1 "java/lang/AbstractStringBuilder" "value" "[B" (.ref a2)) (V_a2 : Arv Z h0 a2 k_a2 .byte (16 : Int32) [(.int 0), (.int 0), (.int 0), (.int 0), (.int 0), (.int 0), (.int 0), (.int 0), (.int 0), (.int 0), (.int 0), (.int 0), (.int 0), (.int 0), (.int 0), (.int 0)] (.int 0)) (F_a1_coder : Fld Z h0 a1 "java/lang/AbstractStringBuilder" "coder" "B" (.int 0)) :
    CtrN l Z (⟨"java/lang/AbstractStringBuilder", "ensureCapacityInternal", "(I)V"⟩ : MethodName) jdk_68_method_9_code 3 none [] (⟨0, 0, 0, 0⟩ : Room) #[(.ref a1), (.int 2)] h0 [] (fun v h => v = none) := by
  refine CtrN.intro (L0 := #[.val (.ref a1), .val (.int 2), .unset]) (plainFor_of_name pn0) O0 (own_entry rfl) ?_
  intro p e s m below meth c T0 hy hml hret hlk hnm W0
  refine o_aloadN W0 (pc' := 1) (hb hy d14_0) rfl rfl rfl ?_
  refine o_getF W0 (w25 hw) Via.refl F_a1_value (pc' := 4) (hb hy d14_1) rfl ?_
  intro T1 W1
  refine o_len W1 V_a2 (pc' := 5) (hb hy d14_4) rfl ?_
  refine o_aloadN W1 (pc' := 6) (hb hy d14_5) rfl rfl rfl ?_
  refine o_getF W1 (w27 hw) Via.refl F_a1_coder (pc' := 9) (hb hy d14_6) rfl ?_
  intro T2 W2
  refine o_ishr W2 (v := 16) (pc' := 10) (hb hy d14_9) (by decide) rfl ?_
  refine o_istoreN W2 (L' := #[.val (.ref a1), .val (.int 2), .val (.int 16)]) (pc' := 11) (hb hy d14_10) rfl rfl ?_
  refine o_iloadN W2 (pc' := 12) (hb hy d14_11) rfl rfl ?_
  refine o_iloadN W2 (pc' := 13) (hb hy d14_12) rfl rfl ?_
  refine o_isub W2 (v := (-14 : Int32)) (pc' := 14) (hb hy d14_13) (by decide) rfl ?_
  refine o_ifY W2 (pc' := 38) (hb hy d14_14) (XT.i0_le_t (by decide)) (by decide) rfl ?_
  exact o_ret0 W2 hlk hret (hb hy d14_38) (by decide) (by decide) rfl
theorem rm21 (l : Launch) (Z : State) (a0 : Array Value) (hw : ∀ d ∈ tables_1, d.before a0 Z = true) (gCS : Int32) (a1 a2 : Addr) (h0 : Heap) (O0 : Old Z Z.heap.size h0) (SgCS : Sta Z Z.heap "java/lang/String" "COMPACT_STRINGS" "Z" (.int gCS)) (NgCS : ¬ (gCS = (0 : Int32))) (F_a1_coder : Fld Z h0 a1 "java/lang/AbstractStringBuilder" "coder" "B" (.int 0)) (E_a2 : Exa Z h0 a2 "java/lang/String") (F_a2_coder : Fld Z h0 a2 "java/lang/String" "coder" "B" (.int 0)) :
    CtrN l Z (⟨"java/lang/AbstractStringBuilder", "inflateIfNeededFor", "(Ljava/lang/String;)V"⟩ : MethodName) jdk_68_method_71_code 2 none [] (⟨1, 0, 0, 13⟩ : Room) #[(.ref a1), (.ref a2)] h0 [] (fun v h => v = none) := by
  refine CtrN.intro (L0 := #[.val (.ref a1), .val (.ref a2)]) (plainFor_of_name pn0) O0 (own_entry rfl) ?_
  intro p e s m below meth c T0 hy hml hret hlk hnm W0
  refine o_getS W0 (w22 hw) Via.refl (SgCS.ext W0.ox) (pc' := 3) (hb hy d16_0) rfl ?_
  intro T1 W1
  refine o_ifN W1 (pc' := 6) (hb hy d16_3) (XT.i0_eq_f NgCS) rfl ?_
  refine o_aloadN W1 (pc' := 7) (hb hy d16_6) rfl rfl rfl ?_
  refine o_getF W1 (w27 hw) Via.refl F_a1_coder (pc' := 10) (hb hy d16_7) rfl ?_
  intro T2 W2
  refine o_aloadN W2 (pc' := 11) (hb hy d16_10) rfl rfl rfl ?_
  refine o_virtual W2 (y := (⟨"java/lang/String", "coder", "()B"⟩ : MethodName)) (z := (⟨"java/lang/String", "coder", "()B"⟩ : MethodName)) (w98 hw) (w77 hw) (o_nf W2 rfl (w79 hw)) (w79 hw) (w78 hw) (by decide) E_a2 (argsL := []) (CtrN.back (Wd := 1) W2 (rm18 l Z a0 hw gCS a2 h0 W2.old SgCS NgCS F_a2_coder) (w80 hw) (w23 hw) (by decide) (by decide)) (by rw [hml]; rfl) (lenOf pd3 rfl) (S := [(.int 0)]) rfl (by exact Nat.le_of_eq rfl) (pc' := 14) (hb hy d16_11) rfl (cells' := 0) (slots' := 0) rfl rfl (by decide) (by decide) (wy := []) (fun _ _ _ q => ⟨q.1, q.2.1⟩) all0 (fun _ _ => trivial) ?_
  intro v3 T3 h3 lo3 W3 K3 q3
  obtain rfl := q3.2.2
  show Gl _ _ _ _ _ _ _ _ [(.int 0), (.int 0)]
  refine o_icmpY W3 (pc' := 21) (hb hy d16_14) (XT.ii_eq_t (by decide)) (by decide) rfl ?_
  exact o_ret0 W3 hlk hret (hb hy d16_21) (by decide) (by decide) rfl
theorem rm22 (l : Launch) (Z : State) (a0 : Array Value) (hw : ∀ d ∈ tables_1, d.before a0 Z = true) (gCS : Int32) (a1 a2 a3 : Addr) (k_a3 k_a2 : ClassId) (h0 : Heap) (O0 : Old Z Z.heap.size h0) (E_a1 : Exa Z h0 a1 "java/lang/String") (SgCS : Sta Z Z.heap "java/lang/String" "COMPACT_STRINGS" "Z" (.int gCS)) (NgCS : ¬ (gCS = (0 : Int32))) (F_a1_coder : Fld Z h0 a1 "java/lang/String" "coder" "B" (.int 0)) (F_a1_value : Fld Z h0 a1 "java/lang/String" "value" "[B" (.ref a3)) (V_a3 : Arv Z h0 a3 k_a3 .byte (2 : Int32) [(.int (StrChars.lo8 (60 : Int32))), (.int (StrChars.lo8 (47 : Int32)))] (.int 0)) (V_a2 : Arv Z h0 a2 k_a2 .byte (16 : Int32) [(.int 0), (.int 0), (.int 0), (.int 0), (.int 0), (.int 0), (.int 0), (.int 0), (.int 0), (.int 0), (.int 0), (.int 0), (.int 0), (.int 0), (.int 0), (.int 0)] (.int 0)) (g_a2 : Z.heap.size ≤ a2) :
    CtrN l Z (⟨"java/lang/String", "getBytes", "([BIB)V"⟩ : MethodName) jdk_42_method_147_code 4 none [] (⟨1, 0, 0, 27⟩ : Room) #[(.ref a1), (.ref a2), (.int 0), (.int 0)] h0 [a2] (fun v h => Arv Z h a2 k_a2 .byte (16 : Int32) [(.int (StrChars.lo8 (60 : Int32))), (.int (StrChars.lo8 (47 : Int32))), (.int 0), (.int 0), (.int 0), (.int 0), (.int 0), (.int 0), (.int 0), (.int 0), (.int 0), (.int 0), (.int 0), (.int 0), (.int 0), (.int 0)] (.int 0) ∧ v = none) := by
  refine CtrN.intro (L0 := #[.val (.ref a1), .val (.ref a2), .val (.int 0), .val (.int 0)]) (plainFor_of_name pn4) O0 (own_entry rfl) ?_
  intro p e s m below meth c T0 hy hml hret hlk hnm W0
  refine o_aloadN W0 (pc' := 1) (hb hy d17_0) rfl rfl rfl ?_
  refine o_virtual W0 (y := (⟨"java/lang/String", "coder", "()B"⟩ : MethodName)) (z := (⟨"java/lang/String", "coder", "()B"⟩ : MethodName)) (w76 hw) (w77 hw) (o_nf W0 rfl (w79 hw)) (w79 hw) (w78 hw) (by decide) E_a1 (argsL := []) (CtrN.back (Wd := 0) W0 (rm18 l Z a0 hw gCS a1 h0 W0.old SgCS NgCS F_a1_coder) (w80 hw) (w23 hw) (by decide) (by decide)) (by rw [hml]; rfl) (lenOf pd3 rfl) (S := []) rfl (by exact Nat.le_of_eq rfl) (pc' := 4) (hb hy d17_1) rfl (cells' := 0) (slots' := 0) rfl rfl (by decide) (by decide) (wy := []) (fun _ _ _ q => ⟨q.1, q.2.1⟩) all0 (fun _ _ => trivial) ?_
  intro v1 T1 h1 lo1 W1 K1 q1
  obtain rfl := q1.2.2
  show Gl _ _ _ _ _ _ _ _ [(.int 0)]
  refine o_iloadN W1 (pc' := 5) (hb hy d17_4) rfl rfl ?_
  refine o_icmpN W1 (pc' := 8) (hb hy d17_5) (XT.ii_ne_f (by decide)) rfl ?_
  refine o_aloadN W1 (pc' := 9) (hb hy d17_8) rfl rfl rfl ?_
  have c2 := (F_a1_value.keep K1 nin0)
  refine o_getF W1 (w49 hw) Via.refl c2 (pc' := 12) (hb hy d17_9) rfl ?_
  intro T3 W3
  refine o_iconst W3 (v := 0) (pc' := 13) (hb hy d17_12) rfl rfl ?_
  refine o_aloadN W3 (pc' := 14) (hb hy d17_13) rfl rfl rfl ?_
  refine o_iloadN W3 (pc' := 15) (hb hy d17_14) rfl rfl ?_
  refine o_iloadN W3 (pc' := 16) (hb hy d17_15) rfl rfl ?_
  refine o_ishl W3 (v := 0) (pc' := 17) (hb hy d17_16) (by decide) rfl ?_
  refine o_aloadN W3 (pc' := 18) (hb hy d17_17) rfl rfl rfl ?_
  refine o_getF W3 (w49 hw) Via.refl c2 (pc' := 21) (hb hy d17_18) rfl ?_
  intro T4 W4
  have c5 := (V_a3.keep K1 nin0)
  refine o_len W4 c5 (pc' := 22) (hb hy d17_21) rfl ?_
  have c6 := (V_a2.keep K1 nin0)
  refine o_copy W4 (w104 hw) (w107 hw) (w105 hw) (w106 hw) c5 c6 (us := [(.int (StrChars.lo8 (60 : Int32))), (.int (StrChars.lo8 (47 : Int32)))]) (Or.inl ⟨rfl, rfl⟩) (by decide) (by decide) (by decide) (by decide) (by decide) rfl (Nat.le_of_ble_eq_true rfl) (vd' := [(.int (StrChars.lo8 (60 : Int32))), (.int (StrChars.lo8 (47 : Int32))), (.int 0), (.int 0), (.int 0), (.int 0), (.int 0), (.int 0), (.int 0), (.int 0), (.int 0), (.int 0), (.int 0), (.int 0), (.int 0), (.int 0)]) rfl g_a2 (Or.inl (List.mem_of_getElem? (i := 0) rfl)) (fun _ _ => trivial) (by rw [hml]; rfl) (pc' := 25) (hb hy d17_22) rfl (by decide) 0 (by exact Nat.le_of_eq rfl) (by decide) ?_
  intro T7 h7 lo7 W7 K7 V7
  refine o_goto W7 (pc' := 43) (hb hy d17_25) (by decide) rfl ?_
  exact o_ret0 W7 hlk hret (hb hy d17_43) (by decide) (by decide) ⟨V7, rfl⟩
theorem rm23 (l : Launch) (Z : State) (a0 : Array Value) (hw : ∀ d ∈ tables_1, d.before a0 Z = true) (gCS : Int32) (a1 a2 a3 a4 : Addr) (k_a4 k_a3 : ClassId) (h0 : Heap) (O0 : Old Z Z.heap.size h0) (E_a1 : Exa Z h0 a1 "java/lang/StringBuilder") (SgCS : Sta Z Z.heap "java/lang/String" "COMPACT_STRINGS" "Z" (.int gCS)) (NgCS : ¬ (gCS = (0 : Int32))) (F_a1_coder : Fld Z h0 a1 "java/lang/AbstractStringBuilder" "coder" "B" (.int 0)) (E_a2 : Exa Z h0 a2 "java/lang/String") (F_a2_coder : Fld Z h0 a2 "java/lang/String" "coder" "B" (.int 0)) (F_a1_value : Fld Z h0 a1 "java/lang/AbstractStringBuilder" "value" "[B" (.ref a3)) (F_a2_value : Fld Z h0 a2 "java/lang/String" "value" "[B" (.ref a4)) (V_a4 : Arv Z h0 a4 k_a4 .byte (2 : Int32) [(.int (StrChars.lo8 (60 : Int32))), (.int (StrChars.lo8 (47 : Int32)))] (.int 0)) (V_a3 : Arv Z h0 a3 k_a3 .byte (16 : Int32) [(.int 0), (.int 0), (.int 0), (.int 0), (.int 0), (.int 0), (.int 0), (.int 0), (.int 0), (.int 0), (.int 0), (.int 0), (.int 0), (.int 0), (.int 0), (.int 0)] (.int 0)) (g_a3 : Z.heap.size ≤ a3) :
    CtrN l Z (⟨"java/lang/AbstractStringBuilder", "putStringAt", "(ILjava/lang/String;)V"⟩ : MethodName) jdk_68_method_73_code 3 none [] (⟨2, 0, 0, 42⟩ : Room) #[(.ref a1), (.int 0), (.ref a2)] h0 [a3] (fun v h => Arv Z h a3 k_a3 .byte (16 : Int32) [(.int (StrChars.lo8 (60 : Int32))), (.int (StrChars.lo8 (47 : Int32))), (.int 0), (.int 0), (.int 0), (.int 0), (.int 0), (.int 0), (.int 0), (.int 0), (.int 0), (.int 0), (.int 0), (.int 0), (.int 0), (.int 0)] (.int 0) ∧ v = none) := by
  refine CtrN.intro (L0 := #[.val (.ref a1), .val (.int 0), .val (.ref a2)]) (plainFor_of_name pn0) O0 (own_entry rfl) ?_
  intro p e s m below meth c T0 hy hml hret hlk hnm W0
  refine o_aloadN W0 (pc' := 1) (hb hy d15_0) rfl rfl rfl ?_
  refine o_aloadN W0 (pc' := 2) (hb hy d15_1) rfl rfl rfl ?_
  refine o_private W0 (y := (⟨"java/lang/AbstractStringBuilder", "inflateIfNeededFor", "(Ljava/lang/String;)V"⟩ : MethodName)) (w93 hw) (w94 hw) (w96 hw) (w95 hw) (w97 hw) (by decide) E_a1 (argsL := [(.ref a2)]) (CtrN.back (Wd := 0) W0 (rm21 l Z a0 hw gCS a1 a2 h0 W0.old SgCS NgCS F_a1_coder E_a2 F_a2_coder) (w97 hw) (w19 hw) (by decide) (by decide)) (by rw [hml]; rfl) (lenOf pd14 rfl) (S := []) rfl (by exact Nat.le_of_eq rfl) (pc' := 5) (hb hy d15_2) rfl (cells' := 0) (slots' := 0) rfl rfl (by decide) (by decide) (wy := []) (fun _ _ _ q => ⟨q.1, q.2.1⟩) all0 (fun _ _ => trivial) ?_
  intro v1 T1 h1 lo1 W1 K1 q1
  obtain rfl := q1.2.2
  show Gl _ _ _ _ _ _ _ _ []
  refine o_aloadN W1 (pc' := 6) (hb hy d15_5) rfl rfl rfl ?_
  refine o_aloadN W1 (pc' := 7) (hb hy d15_6) rfl rfl rfl ?_
  have c2 := (F_a1_value.keep K1 nin0)
  refine o_getF W1 (w25 hw) Via.refl c2 (pc' := 10) (hb hy d15_7) rfl ?_
  intro T3 W3
  refine o_iloadN W3 (pc' := 11) (hb hy d15_10) rfl rfl ?_
  refine o_aloadN W3 (pc' := 12) (hb hy d15_11) rfl rfl rfl ?_
  have c4 := (F_a1_coder.keep K1 nin0)
  refine o_getF W3 (w27 hw) Via.refl c4 (pc' := 15) (hb hy d15_12) rfl ?_
  intro T5 W5
  have c6 := (F_a2_coder.keep K1 nin0)
  have c7 := (F_a2_value.keep K1 nin0)
  have c8 := (V_a4.keep K1 nin0)
  have c9 := (V_a3.keep K1 nin0)
  have c10 := (E_a2.keep K1)
  refine o_virtual W5 (y := (⟨"java/lang/String", "getBytes", "([BIB)V"⟩ : MethodName)) (z := (⟨"java/lang/String", "getBytes", "([BIB)V"⟩ : MethodName)) (w99 hw) (w100 hw) (o_nf W5 rfl (w102 hw)) (w102 hw) (w101 hw) (by decide) c10 (argsL := [(.ref a3), (.int 0), (.int 0)]) (CtrN.back (Wd := 0) W5 (rm22 l Z a0 hw gCS a2 a3 a4 k_a4 k_a3 h1 W5.old c10 SgCS NgCS c6 c7 c8 c9 g_a3) (w103 hw) (w23 hw) (by decide) (by decide)) (by rw [hml]; rfl) (lenOf pd5 rfl) (S := []) rfl (by exact Nat.le_of_eq rfl) (pc' := 18) (hb hy d15_15) rfl (cells' := 0) (slots' := 0) rfl rfl (by decide) (by decide) (wy := [a3]) (fun _ _ _ q => ⟨q.1, q.2.1⟩) (allS ⟨g_a3, (Or.inl (List.mem_of_getElem? (i := 0) rfl))⟩ all0) (fun _ _ => trivial) ?_
  intro v11 T11 h11 lo11 W11 K11 q11
  obtain ⟨P11_0, rfl⟩ := q11.2.2
  show Gl _ _ _ _ _ _ _ _ []
  exact o_ret0 W11 hlk hret (hb hy d15_18) (by decide) (by decide) ⟨P11_0, rfl⟩
theorem rm24 (l : Launch) (Z : State) (a0 : Array Value) (hw : ∀ d ∈ tables_1, d.before a0 Z = true) (gCS : Int32) (a1 a2 a3 : Addr) (k_a3 : ClassId) (a4 : Addr) (k_a4 : ClassId) (h0 : Heap) (O0 : Old Z Z.heap.size h0) (E_a2 : Exa Z h0 a2 "java/lang/String") (F_a2_value : Fld Z h0 a2 "java/lang/String" "value" "[B" (.ref a3)) (V_a3 : Arv Z h0 a3 k_a3 .byte (2 : Int32) [(.int (StrChars.lo8 (60 : Int32))), (.int (StrChars.lo8 (47 : Int32)))] (.int 0)) (SgCS : Sta Z Z.heap "java/lang/String" "COMPACT_STRINGS" "Z" (.int gCS)) (NgCS : ¬ (gCS = (0 : Int32))) (F_a2_coder : Fld Z h0 a2 "java/lang/String" "coder" "B" (.int 0)) (F_a1_count : Fld Z h0 a1 "java/lang/AbstractStringBuilder" "count" "I" (.int 0)) (E_a1 : Exa Z h0 a1 "java/lang/StringBuilder") (F_a1_value : Fld Z h0 a1 "java/lang/AbstractStringBuilder" "value" "[B" (.ref a4)) (V_a4 : Arv Z h0 a4 k_a4 .byte (16 : Int32) [(.int 0), (.int 0), (.int 0), (.int 0), (.int 0), (.int 0), (.int 0), (.int 0), (.int 0), (.int 0), (.int 0), (.int 0), (.int 0), (.int 0), (.int 0), (.int 0)] (.int 0)) (F_a1_coder : Fld Z h0 a1 "java/lang/AbstractStringBuilder" "coder" "B" (.int 0)) (g_a4 : Z.heap.size ≤ a4) (g_a1 : Z.heap.size ≤ a1) (F_a1_maybeLatin1 : Fld Z h0 a1 "java/lang/AbstractStringBuilder" "maybeLatin1" "Z" (.int 0)) :
    CtrN l Z (⟨"java/lang/AbstractStringBuilder", "append", "(Ljava/lang/String;)Ljava/lang/AbstractStringBuilder;"⟩ : MethodName) jdk_68_method_22_code 3 (some (.object "java/lang/AbstractStringBuilder")) [] (⟨3, 0, 0, 56⟩ : Room) #[(.ref a1), (.ref a2)] h0 [a4, a1] (fun v h => Fld Z h a1 "java/lang/AbstractStringBuilder" "count" "I" (.int 2) ∧ Fld Z h a1 "java/lang/AbstractStringBuilder" "value" "[B" (.ref a4) ∧ Arv Z h a4 k_a4 .byte (16 : Int32) [(.int (StrChars.lo8 (60 : Int32))), (.int (StrChars.lo8 (47 : Int32))), (.int 0), (.int 0), (.int 0), (.int 0), (.int 0), (.int 0), (.int 0), (.int 0), (.int 0), (.int 0), (.int 0), (.int 0), (.int 0), (.int 0)] (.int 0) ∧ Fld Z h a1 "java/lang/AbstractStringBuilder" "coder" "B" (.int 0) ∧ Fld Z h a1 "java/lang/AbstractStringBuilder" "maybeLatin1" "Z" (.int 0) ∧ v = some (.ref a1)) := by
  refine CtrN.intro (L0 := #[.val (.ref a1), .val (.ref a2), .unset]) (plainFor_of_name pn0) O0 (own_entry rfl) ?_
  intro p e s m below meth c T0 hy hml hret hlk hnm W0
  refine o_aloadN W0 (pc' := 1) (hb hy d11_0) rfl rfl rfl ?_
  refine o_ifnonnullY W0 (pc' := 9) (hb hy d11_1) (by decide) rfl ?_
  refine o_aloadN W0 (pc' := 10) (hb hy d11_9) rfl rfl rfl ?_
  refine o_virtual W0 (y := (⟨"java/lang/String", "length", "()I"⟩ : MethodName)) (z := (⟨"java/lang/String", "length", "()I"⟩ : MethodName)) (w71 hw) (w72 hw) (o_nf W0 rfl (w74 hw)) (w74 hw) (w73 hw) (by decide) E_a2 (argsL := []) (CtrN.back (Wd := 0) W0 (rm19 l Z a0 hw gCS a2 a3 k_a3 h0 W0.old F_a2_value V_a3 E_a2 SgCS NgCS F_a2_coder) (w75 hw) (w23 hw) (by decide) (by decide)) (by rw [hml]; rfl) (lenOf pd2 rfl) (S := []) rfl (by exact Nat.le_of_eq rfl) (pc' := 13) (hb hy d11_10) rfl (cells' := 0) (slots' := 0) rfl rfl (by decide) (by decide) (wy := []) (fun _ _ _ q => ⟨q.1, q.2.1⟩) all0 (fun _ _ => trivial) ?_
  intro v1 T1 h1 lo1 W1 K1 q1
  obtain rfl := q1.2.2
  show Gl _ _ _ _ _ _ _ _ [(.int 2)]
  refine o_istoreN W1 (L' := #[.val (.ref a1), .val (.ref a2), .val (.int 2)]) (pc' := 14) (hb hy d11_13) rfl rfl ?_
  refine o_aloadN W1 (pc' := 15) (hb hy d11_14) rfl rfl rfl ?_
  refine o_aloadN W1 (pc' := 16) (hb hy d11_15) rfl rfl rfl ?_
  have c2 := (F_a1_count.keep K1 nin0)
  refine o_getF W1 (w81 hw) Via.refl c2 (pc' := 19) (hb hy d11_16) rfl ?_
  intro T3 W3
  refine o_iloadN W3 (pc' := 20) (hb hy d11_19) rfl rfl ?_
  refine o_iadd W3 (v := 2) (pc' := 21) (hb hy d11_20) (by decide) rfl ?_
  have c4 := (E_a1.keep K1)
  have c5 := (F_a1_value.keep K1 nin0)
  have c6 := (V_a4.keep K1 nin0)
  have c7 := (F_a1_coder.keep K1 nin0)
  refine o_private W3 (y := (⟨"java/lang/AbstractStringBuilder", "ensureCapacityInternal", "(I)V"⟩ : MethodName)) (w83 hw) (w84 hw) (w86 hw) (w85 hw) (w87 hw) (by decide) c4 (argsL := [(.int 2)]) (CtrN.back (Wd := 0) W3 (rm20 l Z a0 hw a1 a4 k_a4 h1 W3.old c5 c6 c7) (w87 hw) (w19 hw) (by decide) (by decide)) (by rw [hml]; rfl) (lenOf pd0 rfl) (S := []) rfl (by exact Nat.le_of_eq rfl) (pc' := 24) (hb hy d11_21) rfl (cells' := 0) (slots' := 0) rfl rfl (by decide) (by decide) (wy := []) (fun _ _ _ q => ⟨q.1, q.2.1⟩) all0 (fun _ _ => trivial) ?_
  intro v8 T8 h8 lo8 W8 K8 q8
  obtain rfl := q8.2.2
  show Gl _ _ _ _ _ _ _ _ []
  refine o_aloadN W8 (pc' := 25) (hb hy d11_24) rfl rfl rfl ?_
  refine o_aloadN W8 (pc' := 26) (hb hy d11_25) rfl rfl rfl ?_
  have c9 := (c2.keep K8 nin0)
  refine o_getF W8 (w81 hw) Via.refl c9 (pc' := 29) (hb hy d11_26) rfl ?_
  intro T10 W10
  refine o_aloadN W10 (pc' := 30) (hb hy d11_29) rfl rfl rfl ?_
  have c11 := (c7.keep K8 nin0)
  have c12 := ((F_a2_coder.keep K1 nin0).keep K8 nin0)
  have c13 := (c5.keep K8 nin0)
  have c14 := ((F_a2_value.keep K1 nin0).keep K8 nin0)
  have c15 := ((V_a3.keep K1 nin0).keep K8 nin0)
  have c16 := (c6.keep K8 nin0)
  have c17 := (c4.keep K8)
  have c18 := ((E_a2.keep K1).keep K8)
  refine o_private W10 (y := (⟨"java/lang/AbstractStringBuilder", "putStringAt", "(ILjava/lang/String;)V"⟩ : MethodName)) (w88 hw) (w89 hw) (w91 hw) (w90 hw) (w92 hw) (by decide) c17 (argsL := [(.int 0), (.ref a2)]) (CtrN.back (Wd := 0) W10 (rm23 l Z a0 hw gCS a1 a2 a4 a3 k_a3 k_a4 h8 W10.old c17 SgCS NgCS c11 c18 c12 c13 c14 c15 c16 g_a4) (w92 hw) (w19 hw) (by decide) (by decide)) (by rw [hml]; rfl) (lenOf pd15 rfl) (S := []) rfl (by exact Nat.le_of_eq rfl) (pc' := 33) (hb hy d11_30) rfl (cells' := 0) (slots' := 0) rfl rfl (by decide) (by decide) (wy := [a4]) (fun _ _ _ q => ⟨q.1, q.2.1⟩) (allS ⟨g_a4, (Or.inl (List.mem_of_getElem? (i := 0) rfl))⟩ all0) (fun _ _ => trivial) ?_
  intro v19 T19 h19 lo19 W19 K19 q19
  obtain ⟨P19_0, rfl⟩ := q19.2.2
  show Gl _ _ _ _ _ _ _ _ []
  refine o_aloadN W19 (pc' := 34) (hb hy d11_33) rfl rfl rfl ?_
  refine o_dup W19 (pc' := 35) (hb hy d11_34) rfl rfl ?_
  have c20 := (c17.keep K19)
  have c21 := (c9.keep K19 (ninS (Exa.neArv c17 c16 (w10 hw)) nin0))
  refine o_getF W19 (w81 hw) Via.refl c21 (pc' := 38) (hb hy d11_35) rfl ?_
  intro T22 W22
  refine o_iloadN W22 (pc' := 39) (hb hy d11_38) rfl rfl ?_
  refine o_iadd W22 (v := 2) (pc' := 40) (hb hy d11_39) (by decide) rfl ?_
  refine o_putF W22 (w81 hw) Via.refl c21 c20 (Or.inl (w82 hw)) (w10 hw) (ty := .int) (v' := (.int 2)) (by decide) rfl rfl g_a1 (Or.inl (List.mem_of_getElem? (i := 1) rfl)) (fun _ _ => trivial) (pc' := 43) (hb hy d11_40) rfl ?_
  intro T23 h23 lo23 W23 R23
  have F23 := c21.same R23
  refine o_aloadN W23 (pc' := 44) (hb hy d11_43) rfl rfl rfl ?_
  have c24 := (c20.wr R23)
  have c25 := ((c13.keep K19 (ninS (Exa.neArv c17 c16 (w10 hw)) nin0)).other R23 (Or.inr (slot_ne (Or.inl (w26 hw)) (Or.inl (w82 hw)) (by decide) (t := (.array .byte)) (t' := .int) (by decide) (by decide))))
  have c26 := ((c11.keep K19 (ninS (Exa.neArv c17 c16 (w10 hw)) nin0)).other R23 (Or.inr (slot_ne (Or.inl (w28 hw)) (Or.inl (w82 hw)) (by decide) (t := .byte) (t' := .int) (by decide) (by decide))))
  have c27 := ((((F_a1_maybeLatin1.keep K1 nin0).keep K8 nin0).keep K19 (ninS (Exa.neArv c17 c16 (w10 hw)) nin0)).other R23 (Or.inr (slot_ne (Or.inl (w171 hw)) (Or.inl (w82 hw)) (by decide) (t := .boolean) (t' := .int) (by decide) (by decide))))
  have c28 := (P19_0.other R23 (Ne.symm (Exa.neArv c20 P19_0 (w10 hw))))
  exact o_retA W23 hlk (v := (.ref a1)) hret rfl rfl (hb hy d11_44) (by decide) (by decide) ⟨F23, c25, c28, c26, c27, rfl⟩
theorem rm25 (l : Launch) (Z : State) (a0 : Array Value) (hw : ∀ d ∈ tables_1, d.before a0 Z = true) (gCS : Int32) (a1 a2 a3 : Addr) (k_a3 : ClassId) (a4 : Addr) (k_a4 : ClassId) (h0 : Heap) (O0 : Old Z Z.heap.size h0) (E_a2 : Exa Z h0 a2 "java/lang/String") (F_a2_value : Fld Z h0 a2 "java/lang/String" "value" "[B" (.ref a3)) (V_a3 : Arv Z h0 a3 k_a3 .byte (2 : Int32) [(.int (StrChars.lo8 (60 : Int32))), (.int (StrChars.lo8 (47 : Int32)))] (.int 0)) (SgCS : Sta Z Z.heap "java/lang/String" "COMPACT_STRINGS" "Z" (.int gCS)) (NgCS : ¬ (gCS = (0 : Int32))) (F_a2_coder : Fld Z h0 a2 "java/lang/String" "coder" "B" (.int 0)) (F_a1_count : Fld Z h0 a1 "java/lang/AbstractStringBuilder" "count" "I" (.int 0)) (E_a1 : Exa Z h0 a1 "java/lang/StringBuilder") (F_a1_value : Fld Z h0 a1 "java/lang/AbstractStringBuilder" "value" "[B" (.ref a4)) (V_a4 : Arv Z h0 a4 k_a4 .byte (16 : Int32) [(.int 0), (.int 0), (.int 0), (.int 0), (.int 0), (.int 0), (.int 0), (.int 0), (.int 0), (.int 0), (.int 0), (.int 0), (.int 0), (.int 0), (.int 0), (.int 0)] (.int 0)) (F_a1_coder : Fld Z h0 a1 "java/lang/AbstractStringBuilder" "coder" "B" (.int 0)) (F_a1_maybeLatin1 : Fld Z h0 a1 "java/lang/AbstractStringBuilder" "maybeLatin1" "Z" (.int 0)) (g_a4 : Z.heap.size ≤ a4) (g_a1 : Z.heap.size ≤ a1) :
    CtrN l Z (⟨"java/lang/StringBuilder", "append", "(Ljava/lang/String;)Ljava/lang/StringBuilder;"⟩ : MethodName) jdk_67_method_7_code 2 (some (.object "java/lang/StringBuilder")) [] (⟨4, 0, 0, 70⟩ : Room) #[(.ref a1), (.ref a2)] h0 [a1, a4] (fun v h => Fld Z h a1 "java/lang/AbstractStringBuilder" "count" "I" (.int 2) ∧ Fld Z h a1 "java/lang/AbstractStringBuilder" "value" "[B" (.ref a4) ∧ Arv Z h a4 k_a4 .byte (16 : Int32) [(.int (StrChars.lo8 (60 : Int32))), (.int (StrChars.lo8 (47 : Int32))), (.int 0), (.int 0), (.int 0), (.int 0), (.int 0), (.int 0), (.int 0), (.int 0), (.int 0), (.int 0), (.int 0), (.int 0), (.int 0), (.int 0)] (.int 0) ∧ Fld Z h a1 "java/lang/AbstractStringBuilder" "coder" "B" (.int 0) ∧ Fld Z h a1 "java/lang/AbstractStringBuilder" "maybeLatin1" "Z" (.int 0) ∧ v = some (.ref a1)) := by
  refine CtrN.intro (L0 := #[.val (.ref a1), .val (.ref a2)]) (plainFor_of_name pn1) O0 (own_entry rfl) ?_
  intro p e s m below meth c T0 hy hml hret hlk hnm W0
  refine o_aloadN W0 (pc' := 1) (hb hy d10_0) rfl rfl rfl ?_
  refine o_aloadN W0 (pc' := 2) (hb hy d10_1) rfl rfl rfl ?_
  refine o_super W0 (y := (⟨"java/lang/AbstractStringBuilder", "append", "(Ljava/lang/String;)Ljava/lang/AbstractStringBuilder;"⟩ : MethodName)) (by decide) (w66 hw) (w67 hw) (own_sameM (y := (⟨"java/lang/AbstractStringBuilder", "append", "(Ljava/lang/String;)Ljava/lang/AbstractStringBuilder;"⟩ : MethodName)) (by decide) (w67 hw) (w138 hw)) (w68 hw) (w70 hw) (Ins.self E_a1) (argsL := [(.ref a2)]) (CtrN.back (Wd := 0) W0 (rm24 l Z a0 hw gCS a1 a2 a3 k_a3 a4 k_a4 h0 W0.old E_a2 F_a2_value V_a3 SgCS NgCS F_a2_coder F_a1_count E_a1 F_a1_value V_a4 F_a1_coder g_a4 g_a1 F_a1_maybeLatin1) (w70 hw) (w19 hw) (by decide) (by decide)) (by rw [hml]; rfl) (lenOf pd16 rfl) (S := []) rfl (by exact Nat.le_of_eq rfl) (pc' := 5) (hb hy d10_2) rfl (cells' := 0) (slots' := 0) rfl rfl (by decide) (by decide) (wy := [a4, a1]) (fun _ _ _ q => ⟨q.1, q.2.1⟩) (allS ⟨g_a4, (Or.inl (List.mem_of_getElem? (i := 1) rfl))⟩ (allS ⟨g_a1, (Or.inl (List.mem_of_getElem? (i := 0) rfl))⟩ all0)) (fun _ _ => trivial) ?_
  intro v1 T1 h1 lo1 W1 K1 q1
  obtain ⟨P1_0, P1_1, P1_2, P1_3, P1_4, rfl⟩ := q1.2.2
  show Gl _ _ _ _ _ _ _ _ [(.ref a1)]
  refine o_pop W1 (pc' := 6) (hb hy d10_5) rfl rfl ?_
  refine o_aloadN W1 (pc' := 7) (hb hy d10_6) rfl rfl rfl ?_
  have c2 := (E_a1.keep K1)
  exact o_retA W1 hlk (v := (.ref a1)) hret rfl rfl (hb hy d10_7) (by decide) (by decide) ⟨P1_0, P1_1, P1_2, P1_3, P1_4, rfl⟩
theorem rm26 (l : Launch) (Z : State) (a0 : Array Value) (hw : ∀ d ∈ tables_1, d.before a0 Z = true) (gCS : Int32) (a1 a2 : Addr) (k_a2 : ClassId) (x1 : Int32) (h0 : Heap) (O0 : Old Z Z.heap.size h0) (F_a1_value : Fld Z h0 a1 "java/lang/String" "value" "[B" (.ref a2)) (V_a2 : Arv Z h0 a2 k_a2 .byte (1 : Int32) [(.int (StrChars.lo8 x1))] (.int 0)) (E_a1 : Exa Z h0 a1 "java/lang/String") (SgCS : Sta Z Z.heap "java/lang/String" "COMPACT_STRINGS" "Z" (.int gCS)) (NgCS : ¬ (gCS = (0 : Int32))) (F_a1_coder : Fld Z h0 a1 "java/lang/String" "coder" "B" (.int 0)) :
    CtrN l Z (⟨"java/lang/String", "length", "()I"⟩ : MethodName) jdk_42_method_54_code 1 (some .int) [] (⟨1, 0, 0, 13⟩ : Room) #[(.ref a1)] h0 [] (fun v h => v = some (.int 1)) := by
  refine CtrN.intro (L0 := #[.val (.ref a1)]) (plainFor_of_name pn4) O0 (own_entry rfl) ?_
  intro p e s m below meth c T0 hy hml hret hlk hnm W0
  refine o_aloadN W0 (pc' := 1) (hb hy d12_0) rfl rfl rfl ?_
  refine o_getF W0 (w49 hw) Via.refl F_a1_value (pc' := 4) (hb hy d12_1) rfl ?_
  intro T1 W1
  refine o_len W1 V_a2 (pc' := 5) (hb hy d12_4) rfl ?_
  refine o_aloadN W1 (pc' := 6) (hb hy d12_5) rfl rfl rfl ?_
  refine o_virtual W1 (y := (⟨"java/lang/String", "coder", "()B"⟩ : MethodName)) (z := (⟨"java/lang/String", "coder", "()B"⟩ : MethodName)) (w76 hw) (w77 hw) (o_nf W1 rfl (w79 hw)) (w79 hw) (w78 hw) (by decide) E_a1 (argsL := []) (CtrN.back (Wd := 1) W1 (rm18 l Z a0 hw gCS a1 h0 W1.old SgCS NgCS F_a1_coder) (w80 hw) (w23 hw) (by decide) (by decide)) (by rw [hml]; rfl) (lenOf pd3 rfl) (S := [(.int 1)]) rfl (by exact Nat.le_of_eq rfl) (pc' := 9) (hb hy d12_6) rfl (cells' := 0) (slots' := 0) rfl rfl (by decide) (by decide) (wy := []) (fun _ _ _ q => ⟨q.1, q.2.1⟩) all0 (fun _ _ => trivial) ?_
  intro v2 T2 h2 lo2 W2 K2 q2
  obtain rfl := q2.2.2
  show Gl _ _ _ _ _ _ _ _ [(.int 0), (.int 1)]
  refine o_ishr W2 (v := 1) (pc' := 10) (hb hy d12_9) (by decide) rfl ?_
  exact o_retI W2 hlk hret (hb hy d12_10) (by decide) (by decide) rfl
theorem rm27 (l : Launch) (Z : State) (a0 : Array Value) (hw : ∀ d ∈ tables_1, d.before a0 Z = true) (a1 a2 : Addr) (k_a2 : ClassId) (x1 x2 : Int32) (h0 : Heap) (O0 : Old Z Z.heap.size h0) (F_a1_value : Fld Z h0 a1 "java/lang/AbstractStringBuilder" "value" "[B" (.ref a2)) (V_a2 : Arv Z h0 a2 k_a2 .byte (16 : Int32) [(.int x1), (.int x2), (.int 0), (.int 0), (.int 0), (.int 0), (.int 0), (.int 0), (.int 0), (.int 0), (.int 0), (.int 0), (.int 0), (.int 0), (.int 0), (.int 0)] (.int 0)) (F_a1_coder : Fld Z h0 a1 "java/lang/AbstractStringBuilder" "coder" "B" (.int 0)) :
    CtrN l Z (⟨"java/lang/AbstractStringBuilder", "ensureCapacityInternal", "(I)V"⟩ : MethodName) jdk_68_method_9_code 3 none [] (⟨0, 0, 0, 0⟩ : Room) #[(.ref a1), (.int 3)] h0 [] (fun v h => v = none) := by
  refine CtrN.intro (L0 := #[.val (.ref a1), .val (.int 3), .unset]) (plainFor_of_name pn0) O0 (own_entry rfl) ?_
  intro p e s m below meth c T0 hy hml hret hlk hnm W0
  refine o_aloadN W0 (pc' := 1) (hb hy d14_0) rfl rfl rfl ?_
  refine o_getF W0 (w25 hw) Via.refl F_a1_value (pc' := 4) (hb hy d14_1) rfl ?_
  intro T1 W1
  refine o_len W1 V_a2 (pc' := 5) (hb hy d14_4) rfl ?_
  refine o_aloadN W1 (pc' := 6) (hb hy d14_5) rfl rfl rfl ?_
  refine o_getF W1 (w27 hw) Via.refl F_a1_coder (pc' := 9) (hb hy d14_6) rfl ?_
  intro T2 W2
  refine o_ishr W2 (v := 16) (pc' := 10) (hb hy d14_9) (by decide) rfl ?_
  refine o_istoreN W2 (L' := #[.val (.ref a1), .val (.int 3), .val (.int 16)]) (pc' := 11) (hb hy d14_10) rfl rfl ?_
  refine o_iloadN W2 (pc' := 12) (hb hy d14_11) rfl rfl ?_
  refine o_iloadN W2 (pc' := 13) (hb hy d14_12) rfl rfl ?_
  refine o_isub W2 (v := (-13 : Int32)) (pc' := 14) (hb hy d14_13) (by decide) rfl ?_
  refine o_ifY W2 (pc' := 38) (hb hy d14_14) (XT.i0_le_t (by decide)) (by decide) rfl ?_
  exact o_ret0 W2 hlk hret (hb hy d14_38) (by decide) (by decide) rfl
theorem rm28 (l : Launch) (Z : State) (a0 : Array Value) (hw : ∀ d ∈ tables_1, d.before a0 Z = true) (gCS : Int32) (a1 a2 a3 : Addr) (k_a3 : ClassId) (x1 : Int32) (k_a2 : ClassId) (x2 x3 : Int32) (h0 : Heap) (O0 : Old Z Z.heap.size h0) (E_a1 : Exa Z h0 a1 "java/lang/String") (SgCS : Sta Z Z.heap "java/lang/String" "COMPACT_STRINGS" "Z" (.int gCS)) (NgCS : ¬ (gCS = (0 : Int32))) (F_a1_coder : Fld Z h0 a1 "java/lang/String" "coder" "B" (.int 0)) (F_a1_value : Fld Z h0 a1 "java/lang/String" "value" "[B" (.ref a3)) (V_a3 : Arv Z h0 a3 k_a3 .byte (1 : Int32) [(.int (StrChars.lo8 x1))] (.int 0)) (V_a2 : Arv Z h0 a2 k_a2 .byte (16 : Int32) [(.int x2), (.int x3), (.int 0), (.int 0), (.int 0), (.int 0), (.int 0), (.int 0), (.int 0), (.int 0), (.int 0), (.int 0), (.int 0), (.int 0), (.int 0), (.int 0)] (.int 0)) (g_a2 : Z.heap.size ≤ a2) :
    CtrN l Z (⟨"java/lang/String", "getBytes", "([BIB)V"⟩ : MethodName) jdk_42_method_147_code 4 none [] (⟨1, 0, 0, 27⟩ : Room) #[(.ref a1), (.ref a2), (.int 2), (.int 0)] h0 [a2] (fun v h => Arv Z h a2 k_a2 .byte (16 : Int32) [(.int x2), (.int x3), (.int (StrChars.lo8 x1)), (.int 0), (.int 0), (.int 0), (.int 0), (.int 0), (.int 0), (.int 0), (.int 0), (.int 0), (.int 0), (.int 0), (.int 0), (.int 0)] (.int 0) ∧ v = none) := by
  refine CtrN.intro (L0 := #[.val (.ref a1), .val (.ref a2), .val (.int 2), .val (.int 0)]) (plainFor_of_name pn4) O0 (own_entry rfl) ?_
  intro p e s m below meth c T0 hy hml hret hlk hnm W0
  refine o_aloadN W0 (pc' := 1) (hb hy d17_0) rfl rfl rfl ?_
  refine o_virtual W0 (y := (⟨"java/lang/String", "coder", "()B"⟩ : MethodName)) (z := (⟨"java/lang/String", "coder", "()B"⟩ : MethodName)) (w76 hw) (w77 hw) (o_nf W0 rfl (w79 hw)) (w79 hw) (w78 hw) (by decide) E_a1 (argsL := []) (CtrN.back (Wd := 0) W0 (rm18 l Z a0 hw gCS a1 h0 W0.old SgCS NgCS F_a1_coder) (w80 hw) (w23 hw) (by decide) (by decide)) (by rw [hml]; rfl) (lenOf pd3 rfl) (S := []) rfl (by exact Nat.le_of_eq rfl) (pc' := 4) (hb hy d17_1) rfl (cells' := 0) (slots' := 0) rfl rfl (by decide) (by decide) (wy := []) (fun _ _ _ q => ⟨q.1, q.2.1⟩) all0 (fun _ _ => trivial) ?_
  intro v1 T1 h1 lo1 W1 K1 q1
  obtain rfl := q1.2.2
  show Gl _ _ _ _ _ _ _ _ [(.int 0)]
  refine o_iloadN W1 (pc' := 5) (hb hy d17_4) rfl rfl ?_
  refine o_icmpN W1 (pc' := 8) (hb hy d17_5) (XT.ii_ne_f (by decide)) rfl ?_
  refine o_aloadN W1 (pc' := 9) (hb hy d17_8) rfl rfl rfl ?_
  have c2 := (F_a1_value.keep K1 nin0)
  refine o_getF W1 (w49 hw) Via.refl c2 (pc' := 12) (hb hy d17_9) rfl ?_
  intro T3 W3
  refine o_iconst W3 (v := 0) (pc' := 13) (hb hy d17_12) rfl rfl ?_
  refine o_aloadN W3 (pc' := 14) (hb hy d17_13) rfl rfl rfl ?_
  refine o_iloadN W3 (pc' := 15) (hb hy d17_14) rfl rfl ?_
  refine o_iloadN W3 (pc' := 16) (hb hy d17_15) rfl rfl ?_
  refine o_ishl W3 (v := 2) (pc' := 17) (hb hy d17_16) (by decide) rfl ?_
  refine o_aloadN W3 (pc' := 18) (hb hy d17_17) rfl rfl rfl ?_
  refine o_getF W3 (w49 hw) Via.refl c2 (pc' := 21) (hb hy d17_18) rfl ?_
  intro T4 W4
  have c5 := (V_a3.keep K1 nin0)
  refine o_len W4 c5 (pc' := 22) (hb hy d17_21) rfl ?_
  have c6 := (V_a2.keep K1 nin0)
  refine o_copy W4 (w104 hw) (w107 hw) (w105 hw) (w106 hw) c5 c6 (us := [(.int (StrChars.lo8 x1))]) (Or.inl ⟨rfl, rfl⟩) (by decide) (by decide) (by decide) (by decide) (by decide) rfl (Nat.le_of_ble_eq_true rfl) (vd' := [(.int x2), (.int x3), (.int (StrChars.lo8 x1)), (.int 0), (.int 0), (.int 0), (.int 0), (.int 0), (.int 0), (.int 0), (.int 0), (.int 0), (.int 0), (.int 0), (.int 0), (.int 0)]) rfl g_a2 (Or.inl (List.mem_of_getElem? (i := 0) rfl)) (fun _ _ => trivial) (by rw [hml]; rfl) (pc' := 25) (hb hy d17_22) rfl (by decide) 0 (by exact Nat.le_of_eq rfl) (by decide) ?_
  intro T7 h7 lo7 W7 K7 V7
  refine o_goto W7 (pc' := 43) (hb hy d17_25) (by decide) rfl ?_
  exact o_ret0 W7 hlk hret (hb hy d17_43) (by decide) (by decide) ⟨V7, rfl⟩
theorem rm29 (l : Launch) (Z : State) (a0 : Array Value) (hw : ∀ d ∈ tables_1, d.before a0 Z = true) (gCS : Int32) (a1 a2 a3 a4 : Addr) (k_a4 : ClassId) (x1 : Int32) (k_a3 : ClassId) (x2 x3 : Int32) (h0 : Heap) (O0 : Old Z Z.heap.size h0) (E_a1 : Exa Z h0 a1 "java/lang/StringBuilder") (SgCS : Sta Z Z.heap "java/lang/String" "COMPACT_STRINGS" "Z" (.int gCS)) (NgCS : ¬ (gCS = (0 : Int32))) (F_a1_coder : Fld Z h0 a1 "java/lang/AbstractStringBuilder" "coder" "B" (.int 0)) (E_a2 : Exa Z h0 a2 "java/lang/String") (F_a2_coder : Fld Z h0 a2 "java/lang/String" "coder" "B" (.int 0)) (F_a1_value : Fld Z h0 a1 "java/lang/AbstractStringBuilder" "value" "[B" (.ref a3)) (F_a2_value : Fld Z h0 a2 "java/lang/String" "value" "[B" (.ref a4)) (V_a4 : Arv Z h0 a4 k_a4 .byte (1 : Int32) [(.int (StrChars.lo8 x1))] (.int 0)) (V_a3 : Arv Z h0 a3 k_a3 .byte (16 : Int32) [(.int x2), (.int x3), (.int 0), (.int 0), (.int 0), (.int 0), (.int 0), (.int 0), (.int 0), (.int 0), (.int 0), (.int 0), (.int 0), (.int 0), (.int 0), (.int 0)] (.int 0)) (g_a3 : Z.heap.size ≤ a3) :
    CtrN l Z (⟨"java/lang/AbstractStringBuilder", "putStringAt", "(ILjava/lang/String;)V"⟩ : MethodName) jdk_68_method_73_code 3 none [] (⟨2, 0, 0, 42⟩ : Room) #[(.ref a1), (.int 2), (.ref a2)] h0 [a3] (fun v h => Arv Z h a3 k_a3 .byte (16 : Int32) [(.int x2), (.int x3), (.int (StrChars.lo8 x1)), (.int 0), (.int 0), (.int 0), (.int 0), (.int 0), (.int 0), (.int 0), (.int 0), (.int 0), (.int 0), (.int 0), (.int 0), (.int 0)] (.int 0) ∧ v = none) := by
  refine CtrN.intro (L0 := #[.val (.ref a1), .val (.int 2), .val (.ref a2)]) (plainFor_of_name pn0) O0 (own_entry rfl) ?_
  intro p e s m below meth c T0 hy hml hret hlk hnm W0
  refine o_aloadN W0 (pc' := 1) (hb hy d15_0) rfl rfl rfl ?_
  refine o_aloadN W0 (pc' := 2) (hb hy d15_1) rfl rfl rfl ?_
  refine o_private W0 (y := (⟨"java/lang/AbstractStringBuilder", "inflateIfNeededFor", "(Ljava/lang/String;)V"⟩ : MethodName)) (w93 hw) (w94 hw) (w96 hw) (w95 hw) (w97 hw) (by decide) E_a1 (argsL := [(.ref a2)]) (CtrN.back (Wd := 0) W0 (rm21 l Z a0 hw gCS a1 a2 h0 W0.old SgCS NgCS F_a1_coder E_a2 F_a2_coder) (w97 hw) (w19 hw) (by decide) (by decide)) (by rw [hml]; rfl) (lenOf pd14 rfl) (S := []) rfl (by exact Nat.le_of_eq rfl) (pc' := 5) (hb hy d15_2) rfl (cells' := 0) (slots' := 0) rfl rfl (by decide) (by decide) (wy := []) (fun _ _ _ q => ⟨q.1, q.2.1⟩) all0 (fun _ _ => trivial) ?_
  intro v1 T1 h1 lo1 W1 K1 q1
  obtain rfl := q1.2.2
  show Gl _ _ _ _ _ _ _ _ []
  refine o_aloadN W1 (pc' := 6) (hb hy d15_5) rfl rfl rfl ?_
  refine o_aloadN W1 (pc' := 7) (hb hy d15_6) rfl rfl rfl ?_
  have c2 := (F_a1_value.keep K1 nin0)
  refine o_getF W1 (w25 hw) Via.refl c2 (pc' := 10) (hb hy d15_7) rfl ?_
  intro T3 W3
  refine o_iloadN W3 (pc' := 11) (hb hy d15_10) rfl rfl ?_
  refine o_aloadN W3 (pc' := 12) (hb hy d15_11) rfl rfl rfl ?_
  have c4 := (F_a1_coder.keep K1 nin0)
  refine o_getF W3 (w27 hw) Via.refl c4 (pc' := 15) (hb hy d15_12) rfl ?_
  intro T5 W5
  have c6 := (F_a2_coder.keep K1 nin0)
  have c7 := (F_a2_value.keep K1 nin0)
  have c8 := (V_a4.keep K1 nin0)
  have c9 := (V_a3.keep K1 nin0)
  have c10 := (E_a2.keep K1)
  refine o_virtual W5 (y := (⟨"java/lang/String", "getBytes", "([BIB)V"⟩ : MethodName)) (z := (⟨"java/lang/String", "getBytes", "([BIB)V"⟩ : MethodName)) (w99 hw) (w100 hw) (o_nf W5 rfl (w102 hw)) (w102 hw) (w101 hw) (by decide) c10 (argsL := [(.ref a3), (.int 2), (.int 0)]) (CtrN.back (Wd := 0) W5 (rm28 l Z a0 hw gCS a2 a3 a4 k_a4 x1 k_a3 x2 x3 h1 W5.old c10 SgCS NgCS c6 c7 c8 c9 g_a3) (w103 hw) (w23 hw) (by decide) (by decide)) (by rw [hml]; rfl) (lenOf pd5 rfl) (S := []) rfl (by exact Nat.le_of_eq rfl) (pc' := 18) (hb hy d15_15) rfl (cells' := 0) (slots' := 0) rfl rfl (by decide) (by decide) (wy := [a3]) (fun _ _ _ q => ⟨q.1, q.2.1⟩) (allS ⟨g_a3, (Or.inl (List.mem_of_getElem? (i := 0) rfl))⟩ all0) (fun _ _ => trivial) ?_
  intro v11 T11 h11 lo11 W11 K11 q11
  obtain ⟨P11_0, rfl⟩ := q11.2.2
  show Gl _ _ _ _ _ _ _ _ []
  exact o_ret0 W11 hlk hret (hb hy d15_18) (by decide) (by decide) ⟨P11_0, rfl⟩
theorem rm30 (l : Launch) (Z : State) (a0 : Array Value) (hw : ∀ d ∈ tables_1, d.before a0 Z = true) (gCS : Int32) (a1 a2 a3 : Addr) (k_a3 : ClassId) (x1 : Int32) (a4 : Addr) (k_a4 : ClassId) (x2 x3 : Int32) (h0 : Heap) (O0 : Old Z Z.heap.size h0) (E_a2 : Exa Z h0 a2 "java/lang/String") (F_a2_value : Fld Z h0 a2 "java/lang/String" "value" "[B" (.ref a3)) (V_a3 : Arv Z h0 a3 k_a3 .byte (1 : Int32) [(.int (StrChars.lo8 x1))] (.int 0)) (SgCS : Sta Z Z.heap "java/lang/String" "COMPACT_STRINGS" "Z" (.int gCS)) (NgCS : ¬ (gCS = (0 : Int32))) (F_a2_coder : Fld Z h0 a2 "java/lang/String" "coder" "B" (.int 0)) (F_a1_count : Fld Z h0 a1 "java/lang/AbstractStringBuilder" "count" "I" (.int 2)) (E_a1 : Exa Z h0 a1 "java/lang/StringBuilder") (F_a1_value : Fld Z h0 a1 "java/lang/AbstractStringBuilder" "value" "[B" (.ref a4)) (V_a4 : Arv Z h0 a4 k_a4 .byte (16 : Int32) [(.int x2), (.int x3), (.int 0), (.int 0), (.int 0), (.int 0), (.int 0), (.int 0), (.int 0), (.int 0), (.int 0), (.int 0), (.int 0), (.int 0), (.int 0), (.int 0)] (.int 0)) (F_a1_coder : Fld Z h0 a1 "java/lang/AbstractStringBuilder" "coder" "B" (.int 0)) (g_a4 : Z.heap.size ≤ a4) (g_a1 : Z.heap.size ≤ a1) (F_a1_maybeLatin1 : Fld Z h0 a1 "java/lang/AbstractStringBuilder" "maybeLatin1" "Z" (.int 0)) :
    CtrN l Z (⟨"java/lang/AbstractStringBuilder", "append", "(Ljava/lang/String;)Ljava/lang/AbstractStringBuilder;"⟩ : MethodName) jdk_68_method_22_code 3 (some (.object "java/lang/AbstractStringBuilder")) [] (⟨3, 0, 0, 56⟩ : Room) #[(.ref a1), (.ref a2)] h0 [a4, a1] (fun v h => Fld Z h a1 "java/lang/AbstractStringBuilder" "count" "I" (.int 3) ∧ Fld Z h a1 "java/lang/AbstractStringBuilder" "value" "[B" (.ref a4) ∧ Arv Z h a4 k_a4 .byte (16 : Int32) [(.int x2), (.int x3), (.int (StrChars.lo8 x1)), (.int 0), (.int 0), (.int 0), (.int 0), (.int 0), (.int 0), (.int 0), (.int 0), (.int 0), (.int 0), (.int 0), (.int 0), (.int 0)] (.int 0) ∧ Fld Z h a1 "java/lang/AbstractStringBuilder" "coder" "B" (.int 0) ∧ Fld Z h a1 "java/lang/AbstractStringBuilder" "maybeLatin1" "Z" (.int 0) ∧ v = some (.ref a1)) := by
  refine CtrN.intro (L0 := #[.val (.ref a1), .val (.ref a2), .unset]) (plainFor_of_name pn0) O0 (own_entry rfl) ?_
  intro p e s m below meth c T0 hy hml hret hlk hnm W0
  refine o_aloadN W0 (pc' := 1) (hb hy d11_0) rfl rfl rfl ?_
  refine o_ifnonnullY W0 (pc' := 9) (hb hy d11_1) (by decide) rfl ?_
  refine o_aloadN W0 (pc' := 10) (hb hy d11_9) rfl rfl rfl ?_
  refine o_virtual W0 (y := (⟨"java/lang/String", "length", "()I"⟩ : MethodName)) (z := (⟨"java/lang/String", "length", "()I"⟩ : MethodName)) (w71 hw) (w72 hw) (o_nf W0 rfl (w74 hw)) (w74 hw) (w73 hw) (by decide) E_a2 (argsL := []) (CtrN.back (Wd := 0) W0 (rm26 l Z a0 hw gCS a2 a3 k_a3 x1 h0 W0.old F_a2_value V_a3 E_a2 SgCS NgCS F_a2_coder) (w75 hw) (w23 hw) (by decide) (by decide)) (by rw [hml]; rfl) (lenOf pd2 rfl) (S := []) rfl (by exact Nat.le_of_eq rfl) (pc' := 13) (hb hy d11_10) rfl (cells' := 0) (slots' := 0) rfl rfl (by decide) (by decide) (wy := []) (fun _ _ _ q => ⟨q.1, q.2.1⟩) all0 (fun _ _ => trivial) ?_
  intro v1 T1 h1 lo1 W1 K1 q1
  obtain rfl := q1.2.2
  show Gl _ _ _ _ _ _ _ _ [(.int 1)]
  refine o_istoreN W1 (L' := #[.val (.ref a1), .val (.ref a2), .val (.int 1)]) (pc' := 14) (hb hy d11_13) rfl rfl ?_
  refine o_aloadN W1 (pc' := 15) (hb hy d11_14) rfl rfl rfl ?_
  refine o_aloadN W1 (pc' := 16) (hb hy d11_15) rfl rfl rfl ?_
  have c2 := (F_a1_count.keep K1 nin0)
  refine o_getF W1 (w81 hw) Via.refl c2 (pc' := 19) (hb hy d11_16) rfl ?_
  intro T3 W3
  refine o_iloadN W3 (pc' := 20) (hb hy d11_19) rfl rfl ?_
  refine o_iadd W3 (v := 3) (pc' := 21) (hb hy d11_20) (by decide) rfl ?_
  have c4 := (E_a1.keep K1)
  have c5 := (F_a1_value.keep K1 nin0)
  have c6 := (V_a4.keep K1 nin0)
  have c7 := (F_a1_coder.keep K1 nin0)
  refine o_private W3 (y := (⟨"java/lang/AbstractStringBuilder", "ensureCapacityInternal", "(I)V"⟩ : MethodName)) (w83 hw) (w84 hw) (w86 hw) (w85 hw) (w87 hw) (by decide) c4 (argsL := [(.int 3)]) (CtrN.back (Wd := 0) W3 (rm27 l Z a0 hw a1 a4 k_a4 x2 x3 h1 W3.old c5 c6 c7) (w87 hw) (w19 hw) (by decide) (by decide)) (by rw [hml]; rfl) (lenOf pd0 rfl) (S := []) rfl (by exact Nat.le_of_eq rfl) (pc' := 24) (hb hy d11_21) rfl (cells' := 0) (slots' := 0) rfl rfl (by decide) (by decide) (wy := []) (fun _ _ _ q => ⟨q.1, q.2.1⟩) all0 (fun _ _ => trivial) ?_
  intro v8 T8 h8 lo8 W8 K8 q8
  obtain rfl := q8.2.2
  show Gl _ _ _ _ _ _ _ _ []
  refine o_aloadN W8 (pc' := 25) (hb hy d11_24) rfl rfl rfl ?_
  refine o_aloadN W8 (pc' := 26) (hb hy d11_25) rfl rfl rfl ?_
  have c9 := (c2.keep K8 nin0)
  refine o_getF W8 (w81 hw) Via.refl c9 (pc' := 29) (hb hy d11_26) rfl ?_
  intro T10 W10
  refine o_aloadN W10 (pc' := 30) (hb hy d11_29) rfl rfl rfl ?_
  have c11 := (c7.keep K8 nin0)
  have c12 := ((F_a2_coder.keep K1 nin0).keep K8 nin0)
  have c13 := (c5.keep K8 nin0)
  have c14 := ((F_a2_value.keep K1 nin0).keep K8 nin0)
  have c15 := ((V_a3.keep K1 nin0).keep K8 nin0)
  have c16 := (c6.keep K8 nin0)
  have c17 := (c4.keep K8)
  have c18 := ((E_a2.keep K1).keep K8)
  refine o_private W10 (y := (⟨"java/lang/AbstractStringBuilder", "putStringAt", "(ILjava/lang/String;)V"⟩ : MethodName)) (w88 hw) (w89 hw) (w91 hw) (w90 hw) (w92 hw) (by decide) c17 (argsL := [(.int 2), (.ref a2)]) (CtrN.back (Wd := 0) W10 (rm29 l Z a0 hw gCS a1 a2 a4 a3 k_a3 x1 k_a4 x2 x3 h8 W10.old c17 SgCS NgCS c11 c18 c12 c13 c14 c15 c16 g_a4) (w92 hw) (w19 hw) (by decide) (by decide)) (by rw [hml]; rfl) (lenOf pd15 rfl) (S := []) rfl (by exact Nat.le_of_eq rfl) (pc' := 33) (hb hy d11_30) rfl (cells' := 0) (slots' := 0) rfl rfl (by decide) (by decide) (wy := [a4]) (fun _ _ _ q => ⟨q.1, q.2.1⟩) (allS ⟨g_a4, (Or.inl (List.mem_of_getElem? (i := 0) rfl))⟩ all0) (fun _ _ => trivial) ?_
  intro v19 T19 h19 lo19 W19 K19 q19
  obtain ⟨P19_0, rfl⟩ := q19.2.2
  show Gl _ _ _ _ _ _ _ _ []
  refine o_aloadN W19 (pc' := 34) (hb hy d11_33) rfl rfl rfl ?_
  refine o_dup W19 (pc' := 35) (hb hy d11_34) rfl rfl ?_
  have c20 := (c17.keep K19)
  have c21 := (c9.keep K19 (ninS (Exa.neArv c17 c16 (w10 hw)) nin0))
  refine o_getF W19 (w81 hw) Via.refl c21 (pc' := 38) (hb hy d11_35) rfl ?_
  intro T22 W22
  refine o_iloadN W22 (pc' := 39) (hb hy d11_38) rfl rfl ?_
  refine o_iadd W22 (v := 3) (pc' := 40) (hb hy d11_39) (by decide) rfl ?_
  refine o_putF W22 (w81 hw) Via.refl c21 c20 (Or.inl (w82 hw)) (w10 hw) (ty := .int) (v' := (.int 3)) (by decide) rfl rfl g_a1 (Or.inl (List.mem_of_getElem? (i := 1) rfl)) (fun _ _ => trivial) (pc' := 43) (hb hy d11_40) rfl ?_
  intro T23 h23 lo23 W23 R23
  have F23 := c21.same R23
  refine o_aloadN W23 (pc' := 44) (hb hy d11_43) rfl rfl rfl ?_
  have c24 := (c20.wr R23)
  have c25 := ((c13.keep K19 (ninS (Exa.neArv c17 c16 (w10 hw)) nin0)).other R23 (Or.inr (slot_ne (Or.inl (w26 hw)) (Or.inl (w82 hw)) (by decide) (t := (.array .byte)) (t' := .int) (by decide) (by decide))))
  have c26 := ((c11.keep K19 (ninS (Exa.neArv c17 c16 (w10 hw)) nin0)).other R23 (Or.inr (slot_ne (Or.inl (w28 hw)) (Or.inl (w82 hw)) (by decide) (t := .byte) (t' := .int) (by decide) (by decide))))
  have c27 := ((((F_a1_maybeLatin1.keep K1 nin0).keep K8 nin0).keep K19 (ninS (Exa.neArv c17 c16 (w10 hw)) nin0)).other R23 (Or.inr (slot_ne (Or.inl (w171 hw)) (Or.inl (w82 hw)) (by decide) (t := .boolean) (t' := .int) (by decide) (by decide))))
  have c28 := (P19_0.other R23 (Ne.symm (Exa.neArv c20 P19_0 (w10 hw))))
  exact o_retA W23 hlk (v := (.ref a1)) hret rfl rfl (hb hy d11_44) (by decide) (by decide) ⟨F23, c25, c28, c26, c27, rfl⟩
theorem rm31 (l : Launch) (Z : State) (a0 : Array Value) (hw : ∀ d ∈ tables_1, d.before a0 Z = true) (gCS : Int32) (a1 a2 a3 : Addr) (k_a3 : ClassId) (x1 : Int32) (a4 : Addr) (k_a4 : ClassId) (x2 x3 : Int32) (h0 : Heap) (O0 : Old Z Z.heap.size h0) (E_a2 : Exa Z h0 a2 "java/lang/String") (F_a2_value : Fld Z h0 a2 "java/lang/String" "value" "[B" (.ref a3)) (V_a3 : Arv Z h0 a3 k_a3 .byte (1 : Int32) [(.int (StrChars.lo8 x1))] (.int 0)) (SgCS : Sta Z Z.heap "java/lang/String" "COMPACT_STRINGS" "Z" (.int gCS)) (NgCS : ¬ (gCS = (0 : Int32))) (F_a2_coder : Fld Z h0 a2 "java/lang/String" "coder" "B" (.int 0)) (F_a1_count : Fld Z h0 a1 "java/lang/AbstractStringBuilder" "count" "I" (.int 2)) (E_a1 : Exa Z h0 a1 "java/lang/StringBuilder") (F_a1_value : Fld Z h0 a1 "java/lang/AbstractStringBuilder" "value" "[B" (.ref a4)) (V_a4 : Arv Z h0 a4 k_a4 .byte (16 : Int32) [(.int x2), (.int x3), (.int 0), (.int 0), (.int 0), (.int 0), (.int 0), (.int 0), (.int 0), (.int 0), (.int 0), (.int 0), (.int 0), (.int 0), (.int 0), (.int 0)] (.int 0)) (F_a1_coder : Fld Z h0 a1 "java/lang/AbstractStringBuilder" "coder" "B" (.int 0)) (F_a1_maybeLatin1 : Fld Z h0 a1 "java/lang/AbstractStringBuilder" "maybeLatin1" "Z" (.int 0)) (g_a4 : Z.heap.size ≤ a4) (g_a1 : Z.heap.size ≤ a1) :
    CtrN l Z (⟨"java/lang/StringBuilder", "append", "(Ljava/lang/String;)Ljava/lang/StringBuilder;"⟩ : MethodName) jdk_67_method_7_code 2 (some (.object "java/lang/StringBuilder")) [] (⟨4, 0, 0, 70⟩ : Room) #[(.ref a1), (.ref a2)] h0 [a1, a4] (fun v h => Fld Z h a1 "java/lang/AbstractStringBuilder" "count" "I" (.int 3) ∧ Fld Z h a1 "java/lang/AbstractStringBuilder" "value" "[B" (.ref a4) ∧ Arv Z h a4 k_a4 .byte (16 : Int32) [(.int x2), (.int x3), (.int (StrChars.lo8 x1)), (.int 0), (.int 0), (.int 0), (.int 0), (.int 0), (.int 0), (.int 0), (.int 0), (.int 0), (.int 0), (.int 0), (.int 0), (.int 0)] (.int 0) ∧ Fld Z h a1 "java/lang/AbstractStringBuilder" "coder" "B" (.int 0) ∧ Fld Z h a1 "java/lang/AbstractStringBuilder" "maybeLatin1" "Z" (.int 0) ∧ v = some (.ref a1)) := by
  refine CtrN.intro (L0 := #[.val (.ref a1), .val (.ref a2)]) (plainFor_of_name pn1) O0 (own_entry rfl) ?_
  intro p e s m below meth c T0 hy hml hret hlk hnm W0
  refine o_aloadN W0 (pc' := 1) (hb hy d10_0) rfl rfl rfl ?_
  refine o_aloadN W0 (pc' := 2) (hb hy d10_1) rfl rfl rfl ?_
  refine o_super W0 (y := (⟨"java/lang/AbstractStringBuilder", "append", "(Ljava/lang/String;)Ljava/lang/AbstractStringBuilder;"⟩ : MethodName)) (by decide) (w66 hw) (w67 hw) (own_sameM (y := (⟨"java/lang/AbstractStringBuilder", "append", "(Ljava/lang/String;)Ljava/lang/AbstractStringBuilder;"⟩ : MethodName)) (by decide) (w67 hw) (w138 hw)) (w68 hw) (w70 hw) (Ins.self E_a1) (argsL := [(.ref a2)]) (CtrN.back (Wd := 0) W0 (rm30 l Z a0 hw gCS a1 a2 a3 k_a3 x1 a4 k_a4 x2 x3 h0 W0.old E_a2 F_a2_value V_a3 SgCS NgCS F_a2_coder F_a1_count E_a1 F_a1_value V_a4 F_a1_coder g_a4 g_a1 F_a1_maybeLatin1) (w70 hw) (w19 hw) (by decide) (by decide)) (by rw [hml]; rfl) (lenOf pd16 rfl) (S := []) rfl (by exact Nat.le_of_eq rfl) (pc' := 5) (hb hy d10_2) rfl (cells' := 0) (slots' := 0) rfl rfl (by decide) (by decide) (wy := [a4, a1]) (fun _ _ _ q => ⟨q.1, q.2.1⟩) (allS ⟨g_a4, (Or.inl (List.mem_of_getElem? (i := 1) rfl))⟩ (allS ⟨g_a1, (Or.inl (List.mem_of_getElem? (i := 0) rfl))⟩ all0)) (fun _ _ => trivial) ?_
  intro v1 T1 h1 lo1 W1 K1 q1
  obtain ⟨P1_0, P1_1, P1_2, P1_3, P1_4, rfl⟩ := q1.2.2
  show Gl _ _ _ _ _ _ _ _ [(.ref a1)]
  refine o_pop W1 (pc' := 6) (hb hy d10_5) rfl rfl ?_
  refine o_aloadN W1 (pc' := 7) (hb hy d10_6) rfl rfl rfl ?_
  have c2 := (E_a1.keep K1)
  exact o_retA W1 hlk (v := (.ref a1)) hret rfl rfl (hb hy d10_7) (by decide) (by decide) ⟨P1_0, P1_1, P1_2, P1_3, P1_4, rfl⟩
theorem rm32 (l : Launch) (Z : State) (a0 : Array Value) (hw : ∀ d ∈ tables_1, d.before a0 Z = true) (a1 a2 : Addr) (k_a2 : ClassId) (x1 x2 x3 : Int32) (h0 : Heap) (O0 : Old Z Z.heap.size h0) (F_a1_value : Fld Z h0 a1 "java/lang/AbstractStringBuilder" "value" "[B" (.ref a2)) (V_a2 : Arv Z h0 a2 k_a2 .byte (16 : Int32) [(.int x1), (.int x2), (.int x3), (.int 0), (.int 0), (.int 0), (.int 0), (.int 0), (.int 0), (.int 0), (.int 0), (.int 0), (.int 0), (.int 0), (.int 0), (.int 0)] (.int 0)) (F_a1_coder : Fld Z h0 a1 "java/lang/AbstractStringBuilder" "coder" "B" (.int 0)) :
    CtrN l Z (⟨"java/lang/AbstractStringBuilder", "ensureCapacityInternal", "(I)V"⟩ : MethodName) jdk_68_method_9_code 3 none [] (⟨0, 0, 0, 0⟩ : Room) #[(.ref a1), (.int 4)] h0 [] (fun v h => v = none) := by
  refine CtrN.intro (L0 := #[.val (.ref a1), .val (.int 4), .unset]) (plainFor_of_name pn0) O0 (own_entry rfl) ?_
  intro p e s m below meth c T0 hy hml hret hlk hnm W0
  refine o_aloadN W0 (pc' := 1) (hb hy d14_0) rfl rfl rfl ?_
  refine o_getF W0 (w25 hw) Via.refl F_a1_value (pc' := 4) (hb hy d14_1) rfl ?_
  intro T1 W1
  refine o_len W1 V_a2 (pc' := 5) (hb hy d14_4) rfl ?_
  refine o_aloadN W1 (pc' := 6) (hb hy d14_5) rfl rfl rfl ?_
  refine o_getF W1 (w27 hw) Via.refl F_a1_coder (pc' := 9) (hb hy d14_6) rfl ?_
  intro T2 W2
  refine o_ishr W2 (v := 16) (pc' := 10) (hb hy d14_9) (by decide) rfl ?_
  refine o_istoreN W2 (L' := #[.val (.ref a1), .val (.int 4), .val (.int 16)]) (pc' := 11) (hb hy d14_10) rfl rfl ?_
  refine o_iloadN W2 (pc' := 12) (hb hy d14_11) rfl rfl ?_
  refine o_iloadN W2 (pc' := 13) (hb hy d14_12) rfl rfl ?_
  refine o_isub W2 (v := (-12 : Int32)) (pc' := 14) (hb hy d14_13) (by decide) rfl ?_
  refine o_ifY W2 (pc' := 38) (hb hy d14_14) (XT.i0_le_t (by decide)) (by decide) rfl ?_
  exact o_ret0 W2 hlk hret (hb hy d14_38) (by decide) (by decide) rfl
theorem rm33 (l : Launch) (Z : State) (a0 : Array Value) (hw : ∀ d ∈ tables_1, d.before a0 Z = true) (gCS : Int32) (a1 : Addr) (h0 : Heap) (O0 : Old Z Z.heap.size h0) (SgCS : Sta Z Z.heap "java/lang/String" "COMPACT_STRINGS" "Z" (.int gCS)) (NgCS : ¬ (gCS = (0 : Int32))) (F_a1_coder : Fld Z h0 a1 "java/lang/AbstractStringBuilder" "coder" "B" (.int 0)) :
    CtrN l Z (⟨"java/lang/AbstractStringBuilder", "isLatin1", "()Z"⟩ : MethodName) jdk_68_method_68_code 1 (some .boolean) [] (⟨0, 0, 0, 0⟩ : Room) #[(.ref a1)] h0 [] (fun v h => v = some (.int 1)) := by
  refine CtrN.intro (L0 := #[.val (.ref a1)]) (plainFor_of_name pn0) O0 (own_entry rfl) ?_
  intro p e s m below meth c T0 hy hml hret hlk hnm W0
  refine o_getS W0 (w22 hw) Via.refl (SgCS.ext W0.ox) (pc' := 3) (hb hy d20_0) rfl ?_
  intro T1 W1
  refine o_ifN W1 (pc' := 6) (hb hy d20_3) (XT.i0_eq_f NgCS) rfl ?_
  refine o_aloadN W1 (pc' := 7) (hb hy d20_6) rfl rfl rfl ?_
  refine o_getF W1 (w27 hw) Via.refl F_a1_coder (pc' := 10) (hb hy d20_7) rfl ?_
  intro T2 W2
  refine o_ifN W2 (pc' := 13) (hb hy d20_10) (XT.i0_ne_f (by decide)) rfl ?_
  refine o_iconst W2 (v := 1) (pc' := 14) (hb hy d20_13) rfl rfl ?_
  refine o_goto W2 (pc' := 18) (hb hy d20_14) (by decide) rfl ?_
  exact o_retN W2 hlk (t := .boolean) hret (by simp) (z' := (1 : Int32)) (by decide) (hb hy d20_18) (by decide) (by decide) rfl
theorem rm34 (l : Launch) (Z : State) (a0 : Array Value) (hw : ∀ d ∈ tables_1, d.before a0 Z = true)  (h0 : Heap) (O0 : Old Z Z.heap.size h0) :
    CtrN l Z (⟨"java/lang/StringLatin1", "canEncode", "(C)Z"⟩ : MethodName) jdk_43_method_3_code 1 (some .boolean) [] (⟨0, 0, 0, 0⟩ : Room) #[(.int 62)] h0 [] (fun v h => v = some (.int 1)) := by
  refine CtrN.intro (L0 := #[.val (.int 62)]) (plainFor_of_name pn3) O0 (own_entry rfl) ?_
  intro p e s m below meth c T0 hy hml hret hlk hnm W0
  refine o_iloadN W0 (pc' := 1) (hb hy d6_0) rfl rfl ?_
  refine o_sipush W0 (v := 255) (pc' := 4) (hb hy d6_1) (by decide) rfl ?_
  refine o_icmpN W0 (pc' := 7) (hb hy d6_4) (XT.ii_gt_f (by decide)) rfl ?_
  refine o_iconst W0 (v := 1) (pc' := 8) (hb hy d6_7) rfl rfl ?_
  refine o_goto W0 (pc' := 12) (hb hy d6_8) (by decide) rfl ?_
  exact o_retN W0 hlk (t := .boolean) hret (by simp) (z' := (1 : Int32)) (by decide) (hb hy d6_12) (by decide) (by decide) rfl
theorem rm35 (l : Launch) (Z : State) (a0 : Array Value) (hw : ∀ d ∈ tables_1, d.before a0 Z = true) (gCS : Int32) (a1 a2 : Addr) (k_a2 : ClassId) (x1 x2 x3 : Int32) (h0 : Heap) (O0 : Old Z Z.heap.size h0) (F_a1_count : Fld Z h0 a1 "java/lang/AbstractStringBuilder" "count" "I" (.int 3)) (E_a1 : Exa Z h0 a1 "java/lang/StringBuilder") (F_a1_value : Fld Z h0 a1 "java/lang/AbstractStringBuilder" "value" "[B" (.ref a2)) (V_a2 : Arv Z h0 a2 k_a2 .byte (16 : Int32) [(.int x1), (.int x2), (.int x3), (.int 0), (.int 0), (.int 0), (.int 0), (.int 0), (.int 0), (.int 0), (.int 0), (.int 0), (.int 0), (.int 0), (.int 0), (.int 0)] (.int 0)) (F_a1_coder : Fld Z h0 a1 "java/lang/AbstractStringBuilder" "coder" "B" (.int 0)) (SgCS : Sta Z Z.heap "java/lang/String" "COMPACT_STRINGS" "Z" (.int gCS)) (NgCS : ¬ (gCS = (0 : Int32))) (g_a1 : Z.heap.size ≤ a1) (g_a2 : Z.heap.size ≤ a2) (F_a1_maybeLatin1 : Fld Z h0 a1 "java/lang/AbstractStringBuilder" "maybeLatin1" "Z" (.int 0)) :
    CtrN l Z (⟨"java/lang/AbstractStringBuilder", "append", "(C)Ljava/lang/AbstractStringBuilder;"⟩ : MethodName) jdk_68_method_31_code 2 (some (.object "java/lang/AbstractStringBuilder")) [] (⟨1, 0, 0, 14⟩ : Room) #[(.ref a1), (.int 62)] h0 [a1, a2] (fun v h => Fld Z h a1 "java/lang/AbstractStringBuilder" "count" "I" (.int 4) ∧ Fld Z h a1 "java/lang/AbstractStringBuilder" "value" "[B" (.ref a2) ∧ Arv Z h a2 k_a2 .byte (16 : Int32) [(.int x1), (.int x2), (.int x3), (.int 62), (.int 0), (.int 0), (.int 0), (.int 0), (.int 0), (.int 0), (.int 0), (.int 0), (.int 0), (.int 0), (.int 0), (.int 0)] (.int 0) ∧ Fld Z h a1 "java/lang/AbstractStringBuilder" "coder" "B" (.int 0) ∧ Fld Z h a1 "java/lang/AbstractStringBuilder" "maybeLatin1" "Z" (.int 0) ∧ v = some (.ref a1)) := by
  refine CtrN.intro (L0 := #[.val (.ref a1), .val (.int 62)]) (plainFor_of_name pn0) O0 (own_entry rfl) ?_
  intro p e s m below meth c T0 hy hml hret hlk hnm W0
  refine o_aloadN W0 (pc' := 1) (hb hy d19_0) rfl rfl rfl ?_
  refine o_aloadN W0 (pc' := 2) (hb hy d19_1) rfl rfl rfl ?_
  refine o_getF W0 (w81 hw) Via.refl F_a1_count (pc' := 5) (hb hy d19_2) rfl ?_
  intro T1 W1
  refine o_iconst W1 (v := 1) (pc' := 6) (hb hy d19_5) rfl rfl ?_
  refine o_iadd W1 (v := 4) (pc' := 7) (hb hy d19_6) (by decide) rfl ?_
  refine o_private W1 (y := (⟨"java/lang/AbstractStringBuilder", "ensureCapacityInternal", "(I)V"⟩ : MethodName)) (w83 hw) (w84 hw) (w86 hw) (w85 hw) (w87 hw) (by decide) E_a1 (argsL := [(.int 4)]) (CtrN.back (Wd := 0) W1 (rm32 l Z a0 hw a1 a2 k_a2 x1 x2 x3 h0 W1.old F_a1_value V_a2 F_a1_coder) (w87 hw) (w19 hw) (by decide) (by decide)) (by rw [hml]; rfl) (lenOf pd0 rfl) (S := []) rfl (by exact Nat.le_of_eq rfl) (pc' := 10) (hb hy d19_7) rfl (cells' := 0) (slots' := 0) rfl rfl (by decide) (by decide) (wy := []) (fun _ _ _ q => ⟨q.1, q.2.1⟩) all0 (fun _ _ => trivial) ?_
  intro v2 T2 h2 lo2 W2 K2 q2
  obtain rfl := q2.2.2
  show Gl _ _ _ _ _ _ _ _ []
  refine o_aloadN W2 (pc' := 11) (hb hy d19_10) rfl rfl rfl ?_
  have c3 := (F_a1_coder.keep K2 nin0)
  have c4 := (E_a1.keep K2)
  refine o_virtual W2 (y := (⟨"java/lang/AbstractStringBuilder", "isLatin1", "()Z"⟩ : MethodName)) (z := (⟨"java/lang/AbstractStringBuilder", "isLatin1", "()Z"⟩ : MethodName)) (w117 hw) (w118 hw) (o_nf W2 rfl (w120 hw)) (w120 hw) (w119 hw) (by decide) c4 (argsL := []) (CtrN.back (Wd := 0) W2 (rm33 l Z a0 hw gCS a1 h2 W2.old SgCS NgCS c3) (w121 hw) (w19 hw) (by decide) (by decide)) (by rw [hml]; rfl) (lenOf pd18 rfl) (S := []) rfl (by exact Nat.le_of_eq rfl) (pc' := 14) (hb hy d19_11) rfl (cells' := 0) (slots' := 0) rfl rfl (by decide) (by decide) (wy := []) (fun _ _ _ q => ⟨q.1, q.2.1⟩) all0 (fun _ _ => trivial) ?_
  intro v5 T5 h5 lo5 W5 K5 q5
  obtain rfl := q5.2.2
  show Gl _ _ _ _ _ _ _ _ [(.int 1)]
  refine o_ifN W5 (pc' := 17) (hb hy d19_14) (XT.i0_eq_f (by decide)) rfl ?_
  refine o_iloadN W5 (pc' := 18) (hb hy d19_17) rfl rfl ?_
  refine o_static W5 (y := (⟨"java/lang/StringLatin1", "canEncode", "(C)Z"⟩ : MethodName)) (w122 hw) (w36 hw) (w37 hw) (w38 hw) (by decide) (argsL := [(.int 62)]) (CtrN.back (Wd := 0) W5 (rm34 l Z a0 hw  h5 W5.old ) (w38 hw) (w37 hw) (by decide) (by decide)) (by rw [hml]; rfl) (lenOf pd10 rfl) (S := []) rfl (by exact Nat.le_of_eq rfl) (pc' := 21) (hb hy d19_18) rfl (cells' := 0) (slots' := 0) rfl rfl (by decide) (by decide) (wy := []) (fun _ _ _ q => ⟨q.1, q.2.1⟩) all0 (fun _ _ => trivial) ?_
  intro v6 T6 h6 lo6 W6 K6 q6
  obtain rfl := q6.2.2
  show Gl _ _ _ _ _ _ _ _ [(.int 1)]
  refine o_ifN W6 (pc' := 24) (hb hy d19_21) (XT.i0_eq_f (by decide)) rfl ?_
  refine o_aloadN W6 (pc' := 25) (hb hy d19_24) rfl rfl rfl ?_
  have c7 := (((F_a1_value.keep K2 nin0).keep K5 nin0).keep K6 nin0)
  refine o_getF W6 (w25 hw) Via.refl c7 (pc' := 28) (hb hy d19_25) rfl ?_
  intro T8 W8
  refine o_aloadN W8 (pc' := 29) (hb hy d19_28) rfl rfl rfl ?_
  refine o_dup W8 (pc' := 30) (hb hy d19_29) rfl rfl ?_
  have c9 := (((F_a1_count.keep K2 nin0).keep K5 nin0).keep K6 nin0)
  refine o_getF W8 (w81 hw) Via.refl c9 (pc' := 33) (hb hy d19_30) rfl ?_
  intro T10 W10
  refine o_dupX1 W10 (pc' := 34) (hb hy d19_33) rfl rfl rfl ?_
  refine o_iconst W10 (v := 1) (pc' := 35) (hb hy d19_34) rfl rfl ?_
  refine o_iadd W10 (v := 4) (pc' := 36) (hb hy d19_35) (by decide) rfl ?_
  have c11 := ((c4.keep K5).keep K6)
  refine o_putF W10 (w81 hw) Via.refl c9 c11 (Or.inl (w82 hw)) (w10 hw) (ty := .int) (v' := (.int 4)) (by decide) rfl rfl g_a1 (Or.inl (List.mem_of_getElem? (i := 0) rfl)) (fun _ _ => trivial) (pc' := 39) (hb hy d19_36) rfl ?_
  intro T12 h12 lo12 W12 R12
  have F12 := c9.same R12
  refine o_iloadN W12 (pc' := 40) (hb hy d19_39) rfl rfl ?_
  refine o_i2b W12 (v := 62) (pc' := 41) (hb hy d19_40) (by decide) rfl ?_
  have c13 := (c11.wr R12)
  have c14 := (((V_a2.keep K2 nin0).keep K5 nin0).keep K6 nin0)
  have c15 := ((((V_a2.keep K2 nin0).keep K5 nin0).keep K6 nin0).other R12 (Ne.symm (Exa.neArv c11 c14 (w10 hw))))
  refine o_stB W12 c15 (i := 3) (x' := (62 : Int32)) (by decide) (by decide) (by decide) (Nat.lt_of_sub_eq_succ rfl) (by decide) (vs' := [(.int x1), (.int x2), (.int x3), (.int 62), (.int 0), (.int 0), (.int 0), (.int 0), (.int 0), (.int 0), (.int 0), (.int 0), (.int 0), (.int 0), (.int 0), (.int 0)]) rfl g_a2 (Or.inl (List.mem_of_getElem? (i := 1) rfl)) (fun _ _ => trivial) (pc' := 42) (hb hy d19_41) rfl ?_
  intro T16 h16 lo16 W16 R16 V16
  refine o_goto W16 (pc' := 75) (hb hy d19_42) (by decide) rfl ?_
  refine o_aloadN W16 (pc' := 76) (hb hy d19_75) rfl rfl rfl ?_
  have c17 := (c13.wr R16)
  have c18 := (F12.other R16 (Or.inl (Exa.neArv c13 c15 (w10 hw))))
  have c19 := ((c7.other R12 (Or.inr (slot_ne (Or.inl (w26 hw)) (Or.inl (w82 hw)) (by decide) (t := (.array .byte)) (t' := .int) (by decide) (by decide)))).other R16 (Or.inl (Exa.neArv c13 c15 (w10 hw))))
  have c20 := ((((c3.keep K5 nin0).keep K6 nin0).other R12 (Or.inr (slot_ne (Or.inl (w28 hw)) (Or.inl (w82 hw)) (by decide) (t := .byte) (t' := .int) (by decide) (by decide)))).other R16 (Or.inl (Exa.neArv c13 c15 (w10 hw))))
  have c21 := (((((F_a1_maybeLatin1.keep K2 nin0).keep K5 nin0).keep K6 nin0).other R12 (Or.inr (slot_ne (Or.inl (w171 hw)) (Or.inl (w82 hw)) (by decide) (t := .boolean) (t' := .int) (by decide) (by decide)))).other R16 (Or.inl (Exa.neArv c13 c15 (w10 hw))))
  exact o_retA W16 hlk (v := (.ref a1)) hret rfl rfl (hb hy d19_76) (by decide) (by decide) ⟨c18, c19, V16, c20, c21, rfl⟩
theorem rm36 (l : Launch) (Z : State) (a0 : Array Value) (hw : ∀ d ∈ tables_1, d.before a0 Z = true) (gCS : Int32) (a1 a2 : Addr) (k_a2 : ClassId) (x1 x2 x3 : Int32) (h0 : Heap) (O0 : Old Z Z.heap.size h0) (F_a1_count : Fld Z h0 a1 "java/lang/AbstractStringBuilder" "count" "I" (.int 3)) (E_a1 : Exa Z h0 a1 "java/lang/StringBuilder") (F_a1_value : Fld Z h0 a1 "java/lang/AbstractStringBuilder" "value" "[B" (.ref a2)) (V_a2 : Arv Z h0 a2 k_a2 .byte (16 : Int32) [(.int x1), (.int x2), (.int x3), (.int 0), (.int 0), (.int 0), (.int 0), (.int 0), (.int 0), (.int 0), (.int 0), (.int 0), (.int 0), (.int 0), (.int 0), (.int 0)] (.int 0)) (F_a1_coder : Fld Z h0 a1 "java/lang/AbstractStringBuilder" "coder" "B" (.int 0)) (SgCS : Sta Z Z.heap "java/lang/String" "COMPACT_STRINGS" "Z" (.int gCS)) (NgCS : ¬ (gCS = (0 : Int32))) (F_a1_maybeLatin1 : Fld Z h0 a1 "java/lang/AbstractStringBuilder" "maybeLatin1" "Z" (.int 0)) (g_a1 : Z.heap.size ≤ a1) (g_a2 : Z.heap.size ≤ a2) :
    CtrN l Z (⟨"java/lang/StringBuilder", "append", "(C)Ljava/lang/StringBuilder;"⟩ : MethodName) jdk_67_method_14_code 2 (some (.object "java/lang/StringBuilder")) [] (⟨2, 0, 0, 27⟩ : Room) #[(.ref a1), (.int 62)] h0 [a2, a1] (fun v h => Fld Z h a1 "java/lang/AbstractStringBuilder" "count" "I" (.int 4) ∧ Fld Z h a1 "java/lang/AbstractStringBuilder" "value" "[B" (.ref a2) ∧ Arv Z h a2 k_a2 .byte (16 : Int32) [(.int x1), (.int x2), (.int x3), (.int 62), (.int 0), (.int 0), (.int 0), (.int 0), (.int 0), (.int 0), (.int 0), (.int 0), (.int 0), (.int 0), (.int 0), (.int 0)] (.int 0) ∧ Fld Z h a1 "java/lang/AbstractStringBuilder" "coder" "B" (.int 0) ∧ Fld Z h a1 "java/lang/AbstractStringBuilder" "maybeLatin1" "Z" (.int 0) ∧ v = some (.ref a1)) := by
  refine CtrN.intro (L0 := #[.val (.ref a1), .val (.int 62)]) (plainFor_of_name pn1) O0 (own_entry rfl) ?_
  intro p e s m below meth c T0 hy hml hret hlk hnm W0
  refine o_aloadN W0 (pc' := 1) (hb hy d18_0) rfl rfl rfl ?_
  refine o_iloadN W0 (pc' := 2) (hb hy d18_1) rfl rfl ?_
  refine o_super W0 (y := (⟨"java/lang/AbstractStringBuilder", "append", "(C)Ljava/lang/AbstractStringBuilder;"⟩ : MethodName)) (by decide) (w113 hw) (w114 hw) (own_sameM (y := (⟨"java/lang/AbstractStringBuilder", "append", "(C)Ljava/lang/AbstractStringBuilder;"⟩ : MethodName)) (by decide) (w114 hw) (w138 hw)) (w68 hw) (w116 hw) (Ins.self E_a1) (argsL := [(.int 62)]) (CtrN.back (Wd := 0) W0 (rm35 l Z a0 hw gCS a1 a2 k_a2 x1 x2 x3 h0 W0.old F_a1_count E_a1 F_a1_value V_a2 F_a1_coder SgCS NgCS g_a1 g_a2 F_a1_maybeLatin1) (w116 hw) (w19 hw) (by decide) (by decide)) (by rw [hml]; rfl) (lenOf pd19 rfl) (S := []) rfl (by exact Nat.le_of_eq rfl) (pc' := 5) (hb hy d18_2) rfl (cells' := 0) (slots' := 0) rfl rfl (by decide) (by decide) (wy := [a1, a2]) (fun _ _ _ q => ⟨q.1, q.2.1⟩) (allS ⟨g_a1, (Or.inl (List.mem_of_getElem? (i := 1) rfl))⟩ (allS ⟨g_a2, (Or.inl (List.mem_of_getElem? (i := 0) rfl))⟩ all0)) (fun _ _ => trivial) ?_
  intro v1 T1 h1 lo1 W1 K1 q1
  obtain ⟨P1_0, P1_1, P1_2, P1_3, P1_4, rfl⟩ := q1.2.2
  show Gl _ _ _ _ _ _ _ _ [(.ref a1)]
  refine o_pop W1 (pc' := 6) (hb hy d18_5) rfl rfl ?_
  refine o_aloadN W1 (pc' := 7) (hb hy d18_6) rfl rfl rfl ?_
  have c2 := (E_a1.keep K1)
  exact o_retA W1 hlk (v := (.ref a1)) hret rfl rfl (hb hy d18_7) (by decide) (by decide) ⟨P1_0, P1_1, P1_2, P1_3, P1_4, rfl⟩
theorem rm37 (l : Launch) (Z : State) (a0 : Array Value) (hw : ∀ d ∈ tables_1, d.before a0 Z = true) (gCS : Int32) (a1 a2 a3 a4 : Addr) (k_a4 : ClassId) (a5 : Addr) (k_a5 : ClassId) (x1 : Int32) (h0 : Heap) (O0 : Old Z Z.heap.size h0) (F_a1_out : Fld Z h0 a1 "com/example/colophon/colophon/api/Html" "out" "Ljava/lang/StringBuilder;" (.ref a3)) (E_a3 : Exa Z h0 a3 "java/lang/StringBuilder") (SgCS : Sta Z Z.heap "java/lang/String" "COMPACT_STRINGS" "Z" (.int gCS)) (NgCS : ¬ (gCS = (0 : Int32))) (F_a3_count : Fld Z h0 a3 "java/lang/AbstractStringBuilder" "count" "I" (.int 0)) (F_a3_value : Fld Z h0 a3 "java/lang/AbstractStringBuilder" "value" "[B" (.ref a4)) (V_a4 : Arv Z h0 a4 k_a4 .byte (16 : Int32) [(.int 0), (.int 0), (.int 0), (.int 0), (.int 0), (.int 0), (.int 0), (.int 0), (.int 0), (.int 0), (.int 0), (.int 0), (.int 0), (.int 0), (.int 0), (.int 0)] (.int 0)) (F_a3_coder : Fld Z h0 a3 "java/lang/AbstractStringBuilder" "coder" "B" (.int 0)) (F_a3_maybeLatin1 : Fld Z h0 a3 "java/lang/AbstractStringBuilder" "maybeLatin1" "Z" (.int 0)) (g_a4 : Z.heap.size ≤ a4) (g_a3 : Z.heap.size ≤ a3) (E_a2 : Exa Z h0 a2 "java/lang/String") (F_a2_value : Fld Z h0 a2 "java/lang/String" "value" "[B" (.ref a5)) (V_a5 : Arv Z h0 a5 k_a5 .byte (1 : Int32) [(.int (StrChars.lo8 x1))] (.int 0)) (ne_a4_a5 : a4 ≠ a5) (F_a2_coder : Fld Z h0 a2 "java/lang/String" "coder" "B" (.int 0)) :
    CtrW l Z consts_1 (⟨"com/example/colophon/colophon/api/Html", "close", "(Ljava/lang/String;)Lcom/example/colophon/colophon/api/Html;"⟩ : MethodName) prog_5_method_3_code 2 (some (.object "com/example/colophon/colophon/api/Html")) [] (⟨5, 2, 12, 83⟩ : Room) #[(.ref a1), (.ref a2)] h0 [a4, a3] (fun v h => Fld Z h a3 "java/lang/AbstractStringBuilder" "count" "I" (.int 4) ∧ Fld Z h a3 "java/lang/AbstractStringBuilder" "value" "[B" (.ref a4) ∧ Arv Z h a4 k_a4 .byte (16 : Int32) [(.int (StrChars.lo8 (60 : Int32))), (.int (StrChars.lo8 (47 : Int32))), (.int (StrChars.lo8 x1)), (.int 62), (.int 0), (.int 0), (.int 0), (.int 0), (.int 0), (.int 0), (.int 0), (.int 0), (.int 0), (.int 0), (.int 0), (.int 0)] (.int 0) ∧ Fld Z h a3 "java/lang/AbstractStringBuilder" "coder" "B" (.int 0) ∧ Fld Z h a3 "java/lang/AbstractStringBuilder" "maybeLatin1" "Z" (.int 0) ∧ v = some (.ref a1)) := by
  refine CtrW.intro (L0 := #[.val (.ref a1), .val (.ref a2)]) (plainFor_of_name pn2) O0 (own_entry rfl) ?_
  intro p e s m below meth c T0 V0 hy hml hret hlk hnm W0
  refine o_aloadN W0 (pc' := 1) (hb hy d9_0) rfl rfl rfl ?_
  refine o_getF W0 (w29 hw) Via.refl F_a1_out (pc' := 4) (hb hy d9_1) rfl ?_
  intro T1 W1
  refine o_ldcR W1 (w58 hw) (own_wS hw) (own_EL hw) (by simp [consts_1]) (pc' := 6) (hb hy d9_4) rfl (n := 8) (by decide) (by decide) (cells' := 2) (slots' := 12) rfl rfl (by decide) (by decide) (vs := [(.int (StrChars.lo8 (60 : Int32))), (.int (StrChars.lo8 (47 : Int32)))]) (z := (2 : Int32)) ⟨by decide, by decide⟩ (by decide) (by decide) ?_
  intro s2 T2 h2 V2 t2 k2 W2 E2 C2 X2 Fc2 Fv2 A2 ns2
  have c3 := (E_a3.ext E2)
  have c4 := (F_a3_count.ext E2)
  have c5 := (F_a3_value.ext E2)
  have c6 := (V_a4.ext E2)
  have c7 := (F_a3_coder.ext E2)
  have c8 := (F_a3_maybeLatin1.ext E2)
  refine o_virtual W2 (y := (⟨"java/lang/StringBuilder", "append", "(Ljava/lang/String;)Ljava/lang/StringBuilder;"⟩ : MethodName)) (z := (⟨"java/lang/StringBuilder", "append", "(Ljava/lang/String;)Ljava/lang/StringBuilder;"⟩ : MethodName)) (w61 hw) (w62 hw) (o_nf W2 rfl (w64 hw)) (w64 hw) (w63 hw) (by decide) c3 (argsL := [(.ref s2)]) (CtrN.back (Wd := 0) W2 (rm25 l Z a0 hw gCS a3 s2 t2 k2 a4 k_a4 h2 W2.old X2 Fv2 A2 SgCS NgCS Fc2 c4 c3 c5 c6 c7 c8 g_a4 g_a3) (w65 hw) (w11 hw) (by decide) (by decide)) (by rw [hml]; rfl) (lenOf pd17 rfl) (S := []) rfl (by exact Nat.le_of_eq rfl) (pc' := 9) (hb hy d9_6) rfl (cells' := 2) (slots' := 12) rfl rfl (by decide) (by decide) (wy := [a3, a4]) (fun _ _ _ q => ⟨q.1, q.2.1⟩) (allS ⟨g_a3, (Or.inl (List.mem_of_getElem? (i := 1) rfl))⟩ (allS ⟨g_a4, (Or.inl (List.mem_of_getElem? (i := 0) rfl))⟩ all0)) (fun _ K => IW.keep K (sfS (Safe.exa W2.al c3 (by decide) (by decide)) (sfS (own_safeB W2.2.2.2.1 (n := 16) (by decide) (own_EL16 hw) c6) sf0)) W2.inv) ?_
  intro v9 T9 h9 lo9 W9 K9 q9
  obtain ⟨P9_0, P9_1, P9_2, P9_3, P9_4, rfl⟩ := q9.2.2
  show Gl _ _ _ _ _ _ _ _ [(.ref a3)]
  refine o_aloadN W9 (pc' := 10) (hb hy d9_9) rfl rfl rfl ?_
  have c10 := ((E_a2.ext E2).keep K9)
  have c11 := (E_a2.ext E2)
  have c12 := (c3.keep K9)
  have c13 := ((F_a2_value.ext E2).keep K9 (ninS (Exa.ne c11 c3 (by decide)) (ninS (Exa.neArv c11 c6 (w40 hw)) nin0)))
  have c14 := (V_a5.ext E2)
  have c15 := ((V_a5.ext E2).keep K9 (ninS (Ne.symm (Exa.neArv c3 c14 (w10 hw))) (ninS (Ne.symm ne_a4_a5) nin0)))
  have c16 := ((F_a2_coder.ext E2).keep K9 (ninS (Exa.ne c11 c3 (by decide)) (ninS (Exa.neArv c11 c6 (w40 hw)) nin0)))
  refine o_virtual W9 (y := (⟨"java/lang/StringBuilder", "append", "(Ljava/lang/String;)Ljava/lang/StringBuilder;"⟩ : MethodName)) (z := (⟨"java/lang/StringBuilder", "append", "(Ljava/lang/String;)Ljava/lang/StringBuilder;"⟩ : MethodName)) (w61 hw) (w62 hw) (o_nf W9 rfl (w64 hw)) (w64 hw) (w63 hw) (by decide) c12 (argsL := [(.ref a2)]) (CtrN.back (Wd := 0) W9 (rm31 l Z a0 hw gCS a3 a2 a5 k_a5 x1 a4 k_a4 (StrChars.lo8 (60 : Int32)) (StrChars.lo8 (47 : Int32)) h9 W9.old c10 c13 c15 SgCS NgCS c16 P9_0 c12 P9_1 P9_2 P9_3 P9_4 g_a4 g_a3) (w65 hw) (w11 hw) (by decide) (by decide)) (by rw [hml]; rfl) (lenOf pd17 rfl) (S := []) rfl (by exact Nat.le_of_eq rfl) (pc' := 13) (hb hy d9_10) rfl (cells' := 2) (slots' := 12) rfl rfl (by decide) (by decide) (wy := [a3, a4]) (fun _ _ _ q => ⟨q.1, q.2.1⟩) (allS ⟨g_a3, (Or.inl (List.mem_of_getElem? (i := 1) rfl))⟩ (allS ⟨g_a4, (Or.inl (List.mem_of_getElem? (i := 0) rfl))⟩ all0)) (fun _ K => IW.keep K (sfS (Safe.exa W9.al c12 (by decide) (by decide)) (sfS (own_safeB W9.2.2.2.1 (n := 16) (by decide) (own_EL16 hw) P9_2) sf0)) W9.inv) ?_
  intro v17 T17 h17 lo17 W17 K17 q17
  obtain ⟨P17_0, P17_1, P17_2, P17_3, P17_4, rfl⟩ := q17.2.2
  show Gl _ _ _ _ _ _ _ _ [(.ref a3)]
  refine o_bipush W17 (v := 62) (pc' := 15) (hb hy d9_13) (by decide) rfl ?_
  have c18 := (c12.keep K17)
  refine o_virtual W17 (y := (⟨"java/lang/StringBuilder", "append", "(C)Ljava/lang/StringBuilder;"⟩ : MethodName)) (z := (⟨"java/lang/StringBuilder", "append", "(C)Ljava/lang/StringBuilder;"⟩ : MethodName)) (w108 hw) (w109 hw) (o_nf W17 rfl (w111 hw)) (w111 hw) (w110 hw) (by decide) c18 (argsL := [(.int 62)]) (CtrN.back (Wd := 0) W17 (rm36 l Z a0 hw gCS a3 a4 k_a4 (StrChars.lo8 (60 : Int32)) (StrChars.lo8 (47 : Int32)) (StrChars.lo8 x1) h17 W17.old P17_0 c18 P17_1 P17_2 P17_3 SgCS NgCS P17_4 g_a3 g_a4) (w112 hw) (w11 hw) (by decide) (by decide)) (by rw [hml]; rfl) (lenOf pd20 rfl) (S := []) rfl (by exact Nat.le_of_eq rfl) (pc' := 18) (hb hy d9_15) rfl (cells' := 2) (slots' := 12) rfl rfl (by decide) (by decide) (wy := [a4, a3]) (fun _ _ _ q => ⟨q.1, q.2.1⟩) (allS ⟨g_a4, (Or.inl (List.mem_of_getElem? (i := 0) rfl))⟩ (allS ⟨g_a3, (Or.inl (List.mem_of_getElem? (i := 1) rfl))⟩ all0)) (fun _ K => IW.keep K (sfS (own_safeB W17.2.2.2.1 (n := 16) (by decide) (own_EL16 hw) P17_2) (sfS (Safe.exa W17.al c18 (by decide) (by decide)) sf0)) W17.inv) ?_
  intro v19 T19 h19 lo19 W19 K19 q19
  obtain ⟨P19_0, P19_1, P19_2, P19_3, P19_4, rfl⟩ := q19.2.2
  show Gl _ _ _ _ _ _ _ _ [(.ref a3)]
  refine o_pop W19 (pc' := 19) (hb hy d9_18) rfl rfl ?_
  refine o_aloadN W19 (pc' := 20) (hb hy d9_19) rfl rfl rfl ?_
  have c20 := (c18.keep K19)
  exact o_retAW W19 (own_EL hw) hlk (v := (.ref a1)) hret rfl rfl (hb hy d9_20) (by decide) (by decide) ⟨P19_0, P19_1, P19_2, P19_3, P19_4, rfl⟩
theorem rm38 (l : Launch) (Z : State) (a0 : Array Value) (hw : ∀ d ∈ tables_1, d.before a0 Z = true) (a1 : Addr) (x1 : Int32) (k_a1 : ClassId) (h0 : Heap) (O0 : Old Z Z.heap.size h0) (V_a1 : Arv Z h0 a1 k_a1 .char (4 : Int32) [(.int 0), (.int 0), (.int 0), (.int 0)] (.int 0)) (g_a1 : Z.heap.size ≤ a1) (hu3 : own_b x1) :
    CtrN l Z (⟨"com/example/colophon/colophon/api/HtmlAppendPinLaw", "put", "([CIC)V"⟩ : MethodName) method_3_code 3 none [] (⟨0, 0, 0, 0⟩ : Room) #[(.ref a1), (.int 0), (.int x1)] h0 [a1] (fun v h => Arv Z h a1 k_a1 .char (4 : Int32) [(.int 60), (.int 47), (.int x1), (.int 62)] (.int 0) ∧ v = none) := by
  refine CtrN.intro (L0 := #[.val (.ref a1), .val (.int 0), .val (.int x1)]) (plainFor_of_name pn5) O0 (own_entry rfl) ?_
  intro p e s m below meth c T0 hy hml hret hlk hnm W0
  refine o_aloadN W0 (pc' := 1) (hb hy d30_0) rfl rfl rfl ?_
  refine o_iloadN W0 (pc' := 2) (hb hy d30_1) rfl rfl ?_
  refine o_bipush W0 (v := 60) (pc' := 4) (hb hy d30_2) (by decide) rfl ?_
  refine o_stC W0 V_a1 (i := 0) (x' := (60 : Int32)) (by decide) (by decide) (by decide) (Nat.lt_of_sub_eq_succ rfl) (by decide) (vs' := [(.int 60), (.int 0), (.int 0), (.int 0)]) rfl g_a1 (Or.inl (List.mem_of_getElem? (i := 0) rfl)) (fun _ _ => trivial) (pc' := 5) (hb hy d30_4) rfl ?_
  intro T1 h1 lo1 W1 R1 V1
  refine o_aloadN W1 (pc' := 6) (hb hy d30_5) rfl rfl rfl ?_
  refine o_iloadN W1 (pc' := 7) (hb hy d30_6) rfl rfl ?_
  refine o_iconst W1 (v := 1) (pc' := 8) (hb hy d30_7) rfl rfl ?_
  refine o_iadd W1 (v := 1) (pc' := 9) (hb hy d30_8) (by decide) rfl ?_
  refine o_bipush W1 (v := 47) (pc' := 11) (hb hy d30_9) (by decide) rfl ?_
  refine o_stC W1 V1 (i := 1) (x' := (47 : Int32)) (by decide) (by decide) (by decide) (Nat.lt_of_sub_eq_succ rfl) (by decide) (vs' := [(.int 60), (.int 47), (.int 0), (.int 0)]) rfl g_a1 (Or.inl (List.mem_of_getElem? (i := 0) rfl)) (fun _ _ => trivial) (pc' := 12) (hb hy d30_11) rfl ?_
  intro T2 h2 lo2 W2 R2 V2
  refine o_aloadN W2 (pc' := 13) (hb hy d30_12) rfl rfl rfl ?_
  refine o_iloadN W2 (pc' := 14) (hb hy d30_13) rfl rfl ?_
  refine o_iconst W2 (v := 2) (pc' := 15) (hb hy d30_14) rfl rfl ?_
  refine o_iadd W2 (v := 2) (pc' := 16) (hb hy d30_15) (by decide) rfl ?_
  refine o_iloadN W2 (pc' := 17) (hb hy d30_16) rfl rfl ?_
  refine o_stC W2 V2 (i := 2) (x' := x1) (by decide) (by decide) (by decide) (Nat.lt_of_sub_eq_succ rfl) (own_i2c hu3) (vs' := [(.int 60), (.int 47), (.int x1), (.int 0)]) rfl g_a1 (Or.inl (List.mem_of_getElem? (i := 0) rfl)) (fun _ _ => trivial) (pc' := 18) (hb hy d30_17) rfl ?_
  intro T4 h4 lo4 W4 R4 V4
  refine o_aloadN W4 (pc' := 19) (hb hy d30_18) rfl rfl rfl ?_
  refine o_iloadN W4 (pc' := 20) (hb hy d30_19) rfl rfl ?_
  refine o_iconst W4 (v := 3) (pc' := 21) (hb hy d30_20) rfl rfl ?_
  refine o_iadd W4 (v := 3) (pc' := 22) (hb hy d30_21) (by decide) rfl ?_
  refine o_bipush W4 (v := 62) (pc' := 24) (hb hy d30_22) (by decide) rfl ?_
  refine o_stC W4 V4 (i := 3) (x' := (62 : Int32)) (by decide) (by decide) (by decide) (Nat.lt_of_sub_eq_succ rfl) (by decide) (vs' := [(.int 60), (.int 47), (.int x1), (.int 62)]) rfl g_a1 (Or.inl (List.mem_of_getElem? (i := 0) rfl)) (fun _ _ => trivial) (pc' := 25) (hb hy d30_24) rfl ?_
  intro T5 h5 lo5 W5 R5 V5
  exact o_ret0 W5 hlk hret (hb hy d30_25) (by decide) (by decide) ⟨V5, rfl⟩
theorem rm39 (l : Launch) (Z : State) (a0 : Array Value) (hw : ∀ d ∈ tables_1, d.before a0 Z = true) (a1 a2 : Addr) (h0 : Heap) (O0 : Old Z Z.heap.size h0) (F_a1_value : Fld Z h0 a1 "java/lang/AbstractStringBuilder" "value" "[B" (.ref a2)) :
    CtrN l Z (⟨"java/lang/AbstractStringBuilder", "getValue", "()[B"⟩ : MethodName) jdk_68_method_64_code 1 (some (.array .byte)) [] (⟨0, 0, 0, 0⟩ : Room) #[(.ref a1)] h0 [] (fun v h => v = some (.ref a2)) := by
  refine CtrN.intro (L0 := #[.val (.ref a1)]) (plainFor_of_name pn0) O0 (own_entry rfl) ?_
  intro p e s m below meth c T0 hy hml hret hlk hnm W0
  refine o_aloadN W0 (pc' := 1) (hb hy d35_0) rfl rfl rfl ?_
  refine o_getF W0 (w25 hw) Via.refl F_a1_value (pc' := 4) (hb hy d35_1) rfl ?_
  intro T1 W1
  exact o_retA W1 hlk (v := (.ref a2)) hret rfl rfl (hb hy d35_4) (by decide) (by decide) rfl
theorem rm40 (l : Launch) (Z : State) (a0 : Array Value) (hw : ∀ d ∈ tables_1, d.before a0 Z = true)  (h0 : Heap) (O0 : Old Z Z.heap.size h0) :
    CtrN l Z (⟨"java/util/Arrays", "checkLength", "(II)V"⟩ : MethodName) jdk_65_method_131_code 2 none [] (⟨0, 0, 0, 0⟩ : Room) #[(.int 0), (.int 0)] h0 [] (fun v h => v = none) := by
  refine CtrN.intro (L0 := #[.val (.int 0), .val (.int 0)]) (plainFor_of_name pn6) O0 (own_entry rfl) ?_
  intro p e s m below meth c T0 hy hml hret hlk hnm W0
  refine o_iloadN W0 (pc' := 1) (hb hy d38_0) rfl rfl ?_
  refine o_iloadN W0 (pc' := 2) (hb hy d38_1) rfl rfl ?_
  refine o_icmpY W0 (pc' := 37) (hb hy d38_2) (XT.ii_ge_t (by decide)) (by decide) rfl ?_
  exact o_ret0 W0 hlk hret (hb hy d38_37) (by decide) (by decide) rfl
theorem rm41 (l : Launch) (Z : State) (a0 : Array Value) (hw : ∀ d ∈ tables_1, d.before a0 Z = true)  (h0 : Heap) (O0 : Old Z Z.heap.size h0) :
    CtrN l Z (⟨"java/lang/Math", "min", "(II)I"⟩ : MethodName) jdk_29_method_69_code 2 (some .int) [] (⟨0, 0, 0, 0⟩ : Room) #[(.int 16), (.int 0)] h0 [] (fun v h => v = some (.int 0)) := by
  refine CtrN.intro (L0 := #[.val (.int 16), .val (.int 0)]) (Jvm.Free.JP.mathPlain rfl (by decide +kernel)) O0 (own_entry rfl) ?_
  intro p e s m below meth c T0 hy hml hret hlk hnm W0
  refine o_iloadN W0 (pc' := 1) (hb hy d39_0) rfl rfl ?_
  refine o_iloadN W0 (pc' := 2) (hb hy d39_1) rfl rfl ?_
  refine o_icmpY W0 (pc' := 9) (hb hy d39_2) (XT.ii_gt_t (by decide)) (by decide) rfl ?_
  refine o_iloadN W0 (pc' := 10) (hb hy d39_9) rfl rfl ?_
  exact o_retI W0 hlk hret (hb hy d39_10) (by decide) (by decide) rfl
theorem rm42 (l : Launch) (Z : State) (a0 : Array Value) (hw : ∀ d ∈ tables_1, d.before a0 Z = true) (a1 : Addr) (k_a1 : ClassId) (h0 : Heap) (O0 : Old Z Z.heap.size h0) (V_a1 : Arv Z h0 a1 k_a1 .byte (16 : Int32) [(.int 0), (.int 0), (.int 0), (.int 0), (.int 0), (.int 0), (.int 0), (.int 0), (.int 0), (.int 0), (.int 0), (.int 0), (.int 0), (.int 0), (.int 0), (.int 0)] (.int 0)) :
    CtrN l Z (⟨"java/util/Arrays", "copyOfRangeByte", "([BII)[B"⟩ : MethodName) jdk_65_method_133_code 5 (some (.array .byte)) [] (⟨1, 1, 0, 27⟩ : Room) #[(.ref a1), (.int 0), (.int 0)] h0 [] (fun v h => ∃ r1 : Addr, ∃ r2 : ClassId, h0.size ≤ r1 ∧ Arv Z h r1 r2 .byte (0 : Int32) [] (.int 0) ∧ v = some (.ref r1)) := by
  refine CtrN.intro (L0 := #[.val (.ref a1), .val (.int 0), .val (.int 0), .unset, .unset]) (plainFor_of_name pn6) O0 (own_entry rfl) ?_
  intro p e s m below meth c T0 hy hml hret hlk hnm W0
  refine o_iloadN W0 (pc' := 1) (hb hy d37_0) rfl rfl ?_
  refine o_iloadN W0 (pc' := 2) (hb hy d37_1) rfl rfl ?_
  refine o_static W0 (y := (⟨"java/util/Arrays", "checkLength", "(II)V"⟩ : MethodName)) (w208 hw) (w209 hw) (w203 hw) (w210 hw) (by decide) (argsL := [(.int 0), (.int 0)]) (CtrN.back (Wd := 0) W0 (rm40 l Z a0 hw  h0 W0.old ) (w210 hw) (w203 hw) (by decide) (by decide)) (by rw [hml]; rfl) (lenOf pd24 rfl) (S := []) rfl (by exact Nat.le_of_eq rfl) (pc' := 5) (hb hy d37_2) rfl (cells' := 0) (slots' := 0) rfl rfl (by decide) (by decide) (wy := []) (fun _ _ _ q => ⟨q.1, q.2.1⟩) all0 (fun _ _ => trivial) ?_
  intro v1 T1 h1 lo1 W1 K1 q1
  obtain rfl := q1.2.2
  show Gl _ _ _ _ _ _ _ _ []
  refine o_iloadN W1 (pc' := 6) (hb hy d37_5) rfl rfl ?_
  refine o_iloadN W1 (pc' := 7) (hb hy d37_6) rfl rfl ?_
  refine o_isub W1 (v := 0) (pc' := 8) (hb hy d37_7) (by decide) rfl ?_
  refine o_istoreN W1 (L' := #[.val (.ref a1), .val (.int 0), .val (.int 0), .val (.int 0), .unset]) (pc' := 9) (hb hy d37_8) rfl rfl ?_
  refine o_iloadN W1 (pc' := 10) (hb hy d37_9) rfl rfl ?_
  refine o_newP W1 (aty := .byte) (w24 hw) (fun _ _ => trivial) (by decide) (cap := 0) (by decide) (by decide) (pc' := 12) (hb hy d37_10) rfl (cells' := 1) (slots' := 0) rfl rfl (by decide) (by decide) (vs := []) (dv := (.int 0)) rfl rfl ?_
  intro b2 T2 h2 k2 W2 E2 ge2 gz2 gb2 V2
  refine o_astore W2 (L' := #[.val (.ref a1), .val (.int 0), .val (.int 0), .val (.int 0), .val (.ref b2)]) (pc' := 14) (hb hy d37_12) rfl rfl rfl ?_
  refine o_aloadN W2 (pc' := 15) (hb hy d37_14) rfl rfl rfl ?_
  refine o_iloadN W2 (pc' := 16) (hb hy d37_15) rfl rfl ?_
  refine o_aload W2 (pc' := 18) (hb hy d37_16) rfl rfl rfl ?_
  refine o_iconst W2 (v := 0) (pc' := 19) (hb hy d37_18) rfl rfl ?_
  refine o_aloadN W2 (pc' := 20) (hb hy d37_19) rfl rfl rfl ?_
  have c3 := ((V_a1.keep K1 nin0).ext E2)
  refine o_len W2 c3 (pc' := 21) (hb hy d37_20) rfl ?_
  refine o_iloadN W2 (pc' := 22) (hb hy d37_21) rfl rfl ?_
  refine o_isub W2 (v := 16) (pc' := 23) (hb hy d37_22) (by decide) rfl ?_
  refine o_iloadN W2 (pc' := 24) (hb hy d37_23) rfl rfl ?_
  refine o_static W2 (y := (⟨"java/lang/Math", "min", "(II)I"⟩ : MethodName)) (w211 hw) (w212 hw) (w213 hw) (w214 hw) (by decide) (argsL := [(.int 16), (.int 0)]) (CtrN.back (Wd := 4) W2 (rm41 l Z a0 hw  h2 W2.old ) (w214 hw) (w213 hw) (by decide) (by decide)) (by rw [hml]; rfl) (lenOf pd25 rfl) (S := [(.int 0), (.ref b2), (.int 0), (.ref a1)]) rfl (by exact Nat.le_of_eq rfl) (pc' := 27) (hb hy d37_24) rfl (cells' := 1) (slots' := 0) rfl rfl (by decide) (by decide) (wy := []) (fun _ _ _ q => ⟨q.1, q.2.1⟩) all0 (fun _ _ => trivial) ?_
  intro v4 T4 h4 lo4 W4 K4 q4
  obtain rfl := q4.2.2
  show Gl _ _ _ _ _ _ _ _ [(.int 0), (.int 0), (.ref b2), (.int 0), (.ref a1)]
  have c5 := (c3.keep K4 nin0)
  have c6 := (V2.keep K4 nin0)
  refine o_copy W4 (w215 hw) (w107 hw) (w105 hw) (w106 hw) c5 c6 (us := []) (Or.inl ⟨rfl, rfl⟩) (by decide) (by decide) (by decide) (by decide) (by decide) rfl (Nat.le_of_ble_eq_true rfl) (vd' := []) rfl gz2 (Or.inr gb2) (fun _ _ => trivial) (by rw [hml]; rfl) (pc' := 30) (hb hy d37_27) rfl (by decide) 0 (by exact Nat.le_of_eq rfl) (by decide) ?_
  intro T7 h7 lo7 W7 K7 V7
  refine o_aload W7 (pc' := 32) (hb hy d37_30) rfl rfl rfl ?_
  exact o_retA W7 hlk (v := (.ref b2)) hret rfl rfl (hb hy d37_32) (by decide) (by decide) ⟨b2, k2, gb2, V7, rfl⟩
theorem rm43 (l : Launch) (Z : State) (a0 : Array Value) (hw : ∀ d ∈ tables_1, d.before a0 Z = true) (a1 : Addr) (k_a1 : ClassId) (h0 : Heap) (O0 : Old Z Z.heap.size h0) (V_a1 : Arv Z h0 a1 k_a1 .byte (16 : Int32) [(.int 0), (.int 0), (.int 0), (.int 0), (.int 0), (.int 0), (.int 0), (.int 0), (.int 0), (.int 0), (.int 0), (.int 0), (.int 0), (.int 0), (.int 0), (.int 0)] (.int 0)) :
    CtrN l Z (⟨"java/util/Arrays", "copyOfRange", "([BII)[B"⟩ : MethodName) jdk_65_method_132_code 3 (some (.array .byte)) [] (⟨2, 1, 0, 43⟩ : Room) #[(.ref a1), (.int 0), (.int 0)] h0 [] (fun v h => ∃ r1 : Addr, ∃ r2 : ClassId, h0.size ≤ r1 ∧ Arv Z h r1 r2 .byte (0 : Int32) [] (.int 0) ∧ v = some (.ref r1)) := by
  refine CtrN.intro (L0 := #[.val (.ref a1), .val (.int 0), .val (.int 0)]) (plainFor_of_name pn6) O0 (own_entry rfl) ?_
  intro p e s m below meth c T0 hy hml hret hlk hnm W0
  refine o_iloadN W0 (pc' := 1) (hb hy d36_0) rfl rfl ?_
  refine o_ifN W0 (pc' := 4) (hb hy d36_1) (XT.i0_ne_f (by decide)) rfl ?_
  refine o_iloadN W0 (pc' := 5) (hb hy d36_4) rfl rfl ?_
  refine o_aloadN W0 (pc' := 6) (hb hy d36_5) rfl rfl rfl ?_
  refine o_len W0 V_a1 (pc' := 7) (hb hy d36_6) rfl ?_
  refine o_icmpN W0 (pc' := 10) (hb hy d36_7) (XT.ii_eq_f (by decide)) rfl ?_
  refine o_aloadN W0 (pc' := 11) (hb hy d36_10) rfl rfl rfl ?_
  refine o_iloadN W0 (pc' := 12) (hb hy d36_11) rfl rfl ?_
  refine o_iloadN W0 (pc' := 13) (hb hy d36_12) rfl rfl ?_
  refine o_static W0 (y := (⟨"java/util/Arrays", "copyOfRangeByte", "([BII)[B"⟩ : MethodName)) (w205 hw) (w206 hw) (w203 hw) (w207 hw) (by decide) (argsL := [(.ref a1), (.int 0), (.int 0)]) (CtrN.back (Wd := 0) W0 (rm42 l Z a0 hw a1 k_a1 h0 W0.old V_a1) (w207 hw) (w203 hw) (by decide) (by decide)) (by rw [hml]; rfl) (lenOf pd26 rfl) (S := []) rfl (by exact Nat.le_of_eq rfl) (pc' := 16) (hb hy d36_13) rfl (cells' := 1) (slots' := 0) rfl rfl (by decide) (by decide) (wy := []) (fun _ _ _ q => ⟨q.1, q.2.1⟩) all0 (fun _ _ => trivial) ?_
  intro v1 T1 h1 lo1 W1 K1 q1
  obtain ⟨r1_1, r2_1, P1_0, P1_1, rfl⟩ := q1.2.2
  show Gl _ _ _ _ _ _ _ _ [(.ref r1_1)]
  exact o_retA W1 hlk (v := (.ref r1_1)) hret rfl rfl (hb hy d36_16) (by decide) (by decide) ⟨r1_1, r2_1, (Nat.le_trans W0.keep.1 P1_0), P1_1, rfl⟩
theorem rm44 (l : Launch) (Z : State) (a0 : Array Value) (hw : ∀ d ∈ tables_1, d.before a0 Z = true) (gCS : Int32) (a1 a2 a3 : Addr) (k_a3 : ClassId) (h0 : Heap) (O0 : Old Z Z.heap.size h0) (E_a2 : Exa Z h0 a2 "java/lang/StringBuilder") (F_a2_value : Fld Z h0 a2 "java/lang/AbstractStringBuilder" "value" "[B" (.ref a3)) (F_a2_count : Fld Z h0 a2 "java/lang/AbstractStringBuilder" "count" "I" (.int 0)) (SgCS : Sta Z Z.heap "java/lang/String" "COMPACT_STRINGS" "Z" (.int gCS)) (NgCS : ¬ (gCS = (0 : Int32))) (F_a2_coder : Fld Z h0 a2 "java/lang/AbstractStringBuilder" "coder" "B" (.int 0)) (E_a1 : Exa Z h0 a1 "java/lang/String") (F_a1_coder : Fld Z h0 a1 "java/lang/String" "coder" "B" (.int 0)) (g_a1 : Z.heap.size ≤ a1) (V_a3 : Arv Z h0 a3 k_a3 .byte (16 : Int32) [(.int 0), (.int 0), (.int 0), (.int 0), (.int 0), (.int 0), (.int 0), (.int 0), (.int 0), (.int 0), (.int 0), (.int 0), (.int 0), (.int 0), (.int 0), (.int 0)] (.int 0)) (F_a1_value : Fld Z h0 a1 "java/lang/String" "value" "[B" .null) :
    CtrN l Z (⟨"java/lang/String", "<init>", "(Ljava/lang/AbstractStringBuilder;Ljava/lang/Void;)V"⟩ : MethodName) jdk_42_method_150_code 5 none [] (⟨3, 1, 0, 58⟩ : Room) #[(.ref a1), (.ref a2), .null] h0 [a1] (fun v h => ∃ r1 : Addr, ∃ r2 : ClassId, h0.size ≤ r1 ∧ Fld Z h a1 "java/lang/String" "coder" "B" (.int 0) ∧ Fld Z h a1 "java/lang/String" "value" "[B" (.ref r1) ∧ Arv Z h r1 r2 .byte (0 : Int32) [] (.int 0) ∧ v = none) := by
  refine CtrN.intro (L0 := #[.val (.ref a1), .val (.ref a2), .val .null, .unset, .unset]) (plainFor_of_name pn4) O0 (own_entry rfl) ?_
  intro p e s m below meth c T0 hy hml hret hlk hnm W0
  refine o_aloadN W0 (pc' := 1) (hb hy d34_0) rfl rfl rfl ?_
  refine o_initO W0 (w48 hw) (w7 hw) (w8 hw) (by rw [hml]; rfl) (pc' := 4) (hb hy d34_1) rfl (by decide) 0 (by exact Nat.le_of_eq rfl) (by decide) ?_
  intro T1 W1
  refine o_aloadN W1 (pc' := 5) (hb hy d34_4) rfl rfl rfl ?_
  refine o_virtual W1 (y := (⟨"java/lang/AbstractStringBuilder", "getValue", "()[B"⟩ : MethodName)) (z := (⟨"java/lang/AbstractStringBuilder", "getValue", "()[B"⟩ : MethodName)) (w194 hw) (w195 hw) (o_nf W1 rfl (w197 hw)) (w197 hw) (w196 hw) (by decide) E_a2 (argsL := []) (CtrN.back (Wd := 0) W1 (rm39 l Z a0 hw a2 a3 h0 W1.old F_a2_value) (w198 hw) (w19 hw) (by decide) (by decide)) (by rw [hml]; rfl) (lenOf pd23 rfl) (S := []) rfl (by exact Nat.le_of_eq rfl) (pc' := 8) (hb hy d34_5) rfl (cells' := 0) (slots' := 0) rfl rfl (by decide) (by decide) (wy := []) (fun _ _ _ q => ⟨q.1, q.2.1⟩) all0 (fun _ _ => trivial) ?_
  intro v2 T2 h2 lo2 W2 K2 q2
  obtain rfl := q2.2.2
  show Gl _ _ _ _ _ _ _ _ [(.ref a3)]
  refine o_astoreN W2 (L' := #[.val (.ref a1), .val (.ref a2), .val .null, .val (.ref a3), .unset]) (pc' := 9) (hb hy d34_8) rfl rfl rfl ?_
  refine o_aloadN W2 (pc' := 10) (hb hy d34_9) rfl rfl rfl ?_
  have c3 := (F_a2_count.keep K2 nin0)
  have c4 := (E_a2.keep K2)
  refine o_virtual W2 (y := (⟨"java/lang/AbstractStringBuilder", "length", "()I"⟩ : MethodName)) (z := (⟨"java/lang/StringBuilder", "length", "()I"⟩ : MethodName)) (w199 hw) (w147 hw) (nf_super (args := #[]) (mvT W2.2.2.2.1 (w138 hw))) (w149 hw) (w150 hw) (by decide) c4 (argsL := []) (CtrN.back (Wd := 0) W2 (rm5 l Z a0 hw a2 h2 W2.old c3 c4) (w151 hw) (w11 hw) (by decide) (by decide)) (by rw [hml]; rfl) (lenOf pd2 rfl) (S := []) rfl (by exact Nat.le_of_eq rfl) (pc' := 13) (hb hy d34_10) rfl (cells' := 0) (slots' := 0) rfl rfl (by decide) (by decide) (wy := []) (fun _ _ _ q => ⟨q.1, q.2.1⟩) all0 (fun _ _ => trivial) ?_
  intro v5 T5 h5 lo5 W5 K5 q5
  obtain rfl := q5.2.2
  show Gl _ _ _ _ _ _ _ _ [(.int 0)]
  refine o_istore W5 (L' := #[.val (.ref a1), .val (.ref a2), .val .null, .val (.ref a3), .val (.int 0)]) (pc' := 15) (hb hy d34_13) rfl rfl ?_
  refine o_aloadN W5 (pc' := 16) (hb hy d34_15) rfl rfl rfl ?_
  have c6 := ((F_a2_coder.keep K2 nin0).keep K5 nin0)
  have c7 := (c4.keep K5)
  refine o_virtual W5 (y := (⟨"java/lang/AbstractStringBuilder", "isLatin1", "()Z"⟩ : MethodName)) (z := (⟨"java/lang/AbstractStringBuilder", "isLatin1", "()Z"⟩ : MethodName)) (w200 hw) (w118 hw) (o_nf W5 rfl (w120 hw)) (w120 hw) (w119 hw) (by decide) c7 (argsL := []) (CtrN.back (Wd := 0) W5 (rm33 l Z a0 hw gCS a2 h5 W5.old SgCS NgCS c6) (w121 hw) (w19 hw) (by decide) (by decide)) (by rw [hml]; rfl) (lenOf pd18 rfl) (S := []) rfl (by exact Nat.le_of_eq rfl) (pc' := 19) (hb hy d34_16) rfl (cells' := 0) (slots' := 0) rfl rfl (by decide) (by decide) (wy := []) (fun _ _ _ q => ⟨q.1, q.2.1⟩) all0 (fun _ _ => trivial) ?_
  intro v8 T8 h8 lo8 W8 K8 q8
  obtain rfl := q8.2.2
  show Gl _ _ _ _ _ _ _ _ [(.int 1)]
  refine o_ifN W8 (pc' := 22) (hb hy d34_19) (XT.i0_eq_f (by decide)) rfl ?_
  refine o_aloadN W8 (pc' := 23) (hb hy d34_22) rfl rfl rfl ?_
  refine o_iconst W8 (v := 0) (pc' := 24) (hb hy d34_23) rfl rfl ?_
  have c9 := (((E_a1.keep K2).keep K5).keep K8)
  have c10 := (((F_a1_coder.keep K2 nin0).keep K5 nin0).keep K8 nin0)
  refine o_putF W8 (w51 hw) Via.refl c10 c9 (Or.inr ⟨(w52 hw), rfl, hnm⟩) (w40 hw) (ty := .byte) (v' := (.int 0)) (by decide) rfl (by decide) g_a1 (Or.inl (List.mem_of_getElem? (i := 0) rfl)) (fun _ _ => trivial) (pc' := 27) (hb hy d34_24) rfl ?_
  intro T11 h11 lo11 W11 R11
  have F11 := c10.same R11
  refine o_aloadN W11 (pc' := 28) (hb hy d34_27) rfl rfl rfl ?_
  refine o_aloadN W11 (pc' := 29) (hb hy d34_28) rfl rfl rfl ?_
  refine o_iconst W11 (v := 0) (pc' := 30) (hb hy d34_29) rfl rfl ?_
  refine o_iload W11 (pc' := 32) (hb hy d34_30) rfl rfl ?_
  have c12 := (c9.wr R11)
  have c13 := (((V_a3.keep K2 nin0).keep K5 nin0).keep K8 nin0)
  have c14 := ((((V_a3.keep K2 nin0).keep K5 nin0).keep K8 nin0).other R11 (Ne.symm (Exa.neArv c9 c13 (w40 hw))))
  refine o_static W11 (y := (⟨"java/util/Arrays", "copyOfRange", "([BII)[B"⟩ : MethodName)) (w201 hw) (w202 hw) (w203 hw) (w204 hw) (by decide) (argsL := [(.ref a3), (.int 0), (.int 0)]) (CtrN.back (Wd := 1) W11 (rm43 l Z a0 hw a3 k_a3 h11 W11.old c14) (w204 hw) (w203 hw) (by decide) (by decide)) (by rw [hml]; rfl) (lenOf pd26 rfl) (S := [(.ref a1)]) rfl (by exact Nat.le_of_eq rfl) (pc' := 35) (hb hy d34_32) rfl (cells' := 1) (slots' := 0) rfl rfl (by decide) (by decide) (wy := []) (fun _ _ _ q => ⟨q.1, q.2.1⟩) all0 (fun _ _ => trivial) ?_
  intro v15 T15 h15 lo15 W15 K15 q15
  obtain ⟨r1_15, r2_15, P15_0, P15_1, rfl⟩ := q15.2.2
  show Gl _ _ _ _ _ _ _ _ [(.ref r1_15), (.ref a1)]
  have c16 := (c12.keep K15)
  have c17 := (((((F_a1_value.keep K2 nin0).keep K5 nin0).keep K8 nin0).other R11 (Or.inr (slot_ne (Or.inr (w50 hw)) (Or.inr (w52 hw)) (by decide) (t := (.array .byte)) (t' := .byte) (by decide) (by decide)))).keep K15 nin0)
  refine o_putF W15 (w49 hw) Via.refl c17 c16 (Or.inr ⟨(w50 hw), rfl, hnm⟩) (w40 hw) (ty := (.array .byte)) (v' := (.ref r1_15)) (by decide) rfl rfl g_a1 (Or.inl (List.mem_of_getElem? (i := 0) rfl)) (fun _ _ => trivial) (pc' := 38) (hb hy d34_35) rfl ?_
  intro T18 h18 lo18 W18 R18
  have F18 := c17.same R18
  refine o_goto W18 (pc' := 97) (hb hy d34_38) (by decide) rfl ?_
  have c19 := ((F11.keep K15 nin0).other R18 (Or.inr (slot_ne (Or.inr (w52 hw)) (Or.inr (w50 hw)) (by decide) (t := .byte) (t' := (.array .byte)) (by decide) (by decide))))
  have c20 := (c16.wr R18)
  have c21 := (P15_1.other R18 (own_ne' c12.lt P15_0))
  exact o_ret0 W18 hlk hret (hb hy d34_97) (by decide) (by decide) ⟨r1_15, r2_15, (Nat.le_trans W11.keep.1 P15_0), c19, F18, c21, rfl⟩
theorem rm45 (l : Launch) (Z : State) (a0 : Array Value) (hw : ∀ d ∈ tables_1, d.before a0 Z = true) (gCS : Int32) (a1 a2 a3 : Addr) (k_a3 : ClassId) (h0 : Heap) (O0 : Old Z Z.heap.size h0) (E_a2 : Exa Z h0 a2 "java/lang/StringBuilder") (F_a2_value : Fld Z h0 a2 "java/lang/AbstractStringBuilder" "value" "[B" (.ref a3)) (F_a2_count : Fld Z h0 a2 "java/lang/AbstractStringBuilder" "count" "I" (.int 0)) (SgCS : Sta Z Z.heap "java/lang/String" "COMPACT_STRINGS" "Z" (.int gCS)) (NgCS : ¬ (gCS = (0 : Int32))) (F_a2_coder : Fld Z h0 a2 "java/lang/AbstractStringBuilder" "coder" "B" (.int 0)) (E_a1 : Exa Z h0 a1 "java/lang/String") (F_a1_coder : Fld Z h0 a1 "java/lang/String" "coder" "B" (.int 0)) (V_a3 : Arv Z h0 a3 k_a3 .byte (16 : Int32) [(.int 0), (.int 0), (.int 0), (.int 0), (.int 0), (.int 0), (.int 0), (.int 0), (.int 0), (.int 0), (.int 0), (.int 0), (.int 0), (.int 0), (.int 0), (.int 0)] (.int 0)) (F_a1_value : Fld Z h0 a1 "java/lang/String" "value" "[B" .null) (g_a1 : Z.heap.size ≤ a1) :
    CtrN l Z (⟨"java/lang/String", "<init>", "(Ljava/lang/StringBuilder;)V"⟩ : MethodName) jdk_42_method_53_code 2 none [] (⟨4, 1, 0, 74⟩ : Room) #[(.ref a1), (.ref a2)] h0 [a1] (fun v h => ∃ r1 : Addr, ∃ r2 : ClassId, h0.size ≤ r1 ∧ Fld Z h a1 "java/lang/String" "coder" "B" (.int 0) ∧ Fld Z h a1 "java/lang/String" "value" "[B" (.ref r1) ∧ Arv Z h r1 r2 .byte (0 : Int32) [] (.int 0) ∧ v = none) := by
  refine CtrN.intro (L0 := #[.val (.ref a1), .val (.ref a2)]) (plainFor_of_name pn4) O0 (own_entry rfl) ?_
  intro p e s m below meth c T0 hy hml hret hlk hnm W0
  refine o_aloadN W0 (pc' := 1) (hb hy d33_0) rfl rfl rfl ?_
  refine o_aloadN W0 (pc' := 2) (hb hy d33_1) rfl rfl rfl ?_
  refine o_aconstNull W0 (pc' := 3) (hb hy d33_2) rfl ?_
  refine o_special W0 (y := (⟨"java/lang/String", "<init>", "(Ljava/lang/AbstractStringBuilder;Ljava/lang/Void;)V"⟩ : MethodName)) rfl (w191 hw) (w192 hw) (w193 hw) (by decide) (a := a1) (argsL := [(.ref a2), .null]) (CtrN.back (Wd := 0) W0 (rm44 l Z a0 hw gCS a1 a2 a3 k_a3 h0 W0.old E_a2 F_a2_value F_a2_count SgCS NgCS F_a2_coder E_a1 F_a1_coder g_a1 V_a3 F_a1_value) (w193 hw) (w23 hw) (by decide) (by decide)) (by rw [hml]; rfl) (lenOf pd27 rfl) (S := []) rfl (by exact Nat.le_of_eq rfl) (pc' := 6) (hb hy d33_3) rfl (cells' := 1) (slots' := 0) rfl rfl (by decide) (by decide) (wy := [a1]) (fun _ _ _ q => ⟨q.1, q.2.1⟩) (allS ⟨g_a1, (Or.inl (List.mem_of_getElem? (i := 0) rfl))⟩ all0) (fun _ _ => trivial) ?_
  intro v1 T1 h1 lo1 W1 K1 q1
  obtain ⟨r1_1, r2_1, P1_0, P1_1, P1_2, P1_3, rfl⟩ := q1.2.2
  show Gl _ _ _ _ _ _ _ _ []
  have c2 := (E_a1.keep K1)
  exact o_ret0 W1 hlk hret (hb hy d33_6) (by decide) (by decide) ⟨r1_1, r2_1, (Nat.le_trans W0.keep.1 P1_0), P1_1, P1_2, P1_3, rfl⟩
theorem rm46 (l : Launch) (Z : State) (a0 : Array Value) (hw : ∀ d ∈ tables_1, d.before a0 Z = true) (gCS : Int32) (a1 a2 : Addr) (k_a2 : ClassId) (h0 : Heap) (O0 : Old Z Z.heap.size h0) (E_a1 : Exa Z h0 a1 "java/lang/StringBuilder") (F_a1_value : Fld Z h0 a1 "java/lang/AbstractStringBuilder" "value" "[B" (.ref a2)) (F_a1_count : Fld Z h0 a1 "java/lang/AbstractStringBuilder" "count" "I" (.int 0)) (SgCS : Sta Z Z.heap "java/lang/String" "COMPACT_STRINGS" "Z" (.int gCS)) (NgCS : ¬ (gCS = (0 : Int32))) (F_a1_coder : Fld Z h0 a1 "java/lang/AbstractStringBuilder" "coder" "B" (.int 0)) (V_a2 : Arv Z h0 a2 k_a2 .byte (16 : Int32) [(.int 0), (.int 0), (.int 0), (.int 0), (.int 0), (.int 0), (.int 0), (.int 0), (.int 0), (.int 0), (.int 0), (.int 0), (.int 0), (.int 0), (.int 0), (.int 0)] (.int 0)) :
    CtrN l Z (⟨"java/lang/StringBuilder", "toString", "()Ljava/lang/String;"⟩ : MethodName) jdk_67_method_42_code 1 (some (.object "java/lang/String")) [] (⟨5, 2, 4, 88⟩ : Room) #[(.ref a1)] h0 [] (fun v h => ∃ r1 : Addr, ∃ r2 : Addr, ∃ r3 : ClassId, h0.size ≤ r1 ∧ h0.size ≤ r2 ∧ Exa Z h r1 "java/lang/String" ∧ Fld Z h r1 "java/lang/String" "value" "[B" (.ref r2) ∧ Fld Z h r1 "java/lang/String" "coder" "B" (.int 0) ∧ Arv Z h r2 r3 .byte (0 : Int32) [] (.int 0) ∧ v = some (.ref r1)) := by
  refine CtrN.intro (L0 := #[.val (.ref a1)]) (plainFor_of_name pn1) O0 (own_entry rfl) ?_
  intro p e s m below meth c T0 hy hml hret hlk hnm W0
  refine o_new W0 (w187 hw) (w40 hw) (w23 hw) (fun _ _ => trivial) (pc' := 3) (hb hy d32_0) rfl (cells' := 1) (slots' := 4) rfl rfl (by decide) (by decide) ?_
  intro b1 T1 h1 W1 E1 ge1 gz1 gb1 A1 D1
  have Fb1_value : Fld Z h1 b1 "java/lang/String" "value" "[B" .null := D1 (Or.inr (w50 hw)) (ty := (.array .byte)) (by decide)
  have Fb1_coder : Fld Z h1 b1 "java/lang/String" "coder" "B" (.int 0) := D1 (Or.inr (w52 hw)) (ty := .byte) (by decide)
  refine o_dup W1 (pc' := 4) (hb hy d32_3) rfl rfl ?_
  refine o_aloadN W1 (pc' := 5) (hb hy d32_4) rfl rfl rfl ?_
  have c2 := (E_a1.ext E1)
  have c3 := (F_a1_value.ext E1)
  have c4 := (F_a1_count.ext E1)
  have c5 := (F_a1_coder.ext E1)
  have c6 := (V_a2.ext E1)
  refine o_special W1 (y := (⟨"java/lang/String", "<init>", "(Ljava/lang/StringBuilder;)V"⟩ : MethodName)) rfl (w188 hw) (w189 hw) (w190 hw) (by decide) (a := b1) (argsL := [(.ref a1)]) (CtrN.back (Wd := 1) W1 (rm45 l Z a0 hw gCS b1 a1 a2 k_a2 h1 W1.old c2 c3 c4 SgCS NgCS c5 A1 Fb1_coder c6 Fb1_value gz1) (w190 hw) (w23 hw) (by decide) (by decide)) (by rw [hml]; rfl) (lenOf pd28 rfl) (S := [(.ref b1)]) rfl (by exact Nat.le_of_eq rfl) (pc' := 8) (hb hy d32_5) rfl (cells' := 2) (slots' := 4) rfl rfl (by decide) (by decide) (wy := [b1]) (fun _ _ _ q => ⟨q.1, q.2.1⟩) (allS ⟨gz1, (Or.inr gb1)⟩ all0) (fun _ _ => trivial) ?_
  intro v7 T7 h7 lo7 W7 K7 q7
  obtain ⟨r1_7, r2_7, P7_0, P7_1, P7_2, P7_3, rfl⟩ := q7.2.2
  show Gl _ _ _ _ _ _ _ _ [(.ref b1)]
  have c8 := (A1.keep K7)
  exact o_retA W7 hlk (v := (.ref b1)) hret rfl rfl (hb hy d32_8) (by decide) (by decide) ⟨b1, r1_7, r2_7, gb1, (Nat.le_trans W1.keep.1 P7_0), c8, P7_2, P7_1, P7_3, rfl⟩
theorem rm47 (l : Launch) (Z : State) (a0 : Array Value) (hw : ∀ d ∈ tables_1, d.before a0 Z = true) (gCS : Int32) (a1 a2 a3 : Addr) (k_a3 : ClassId) (h0 : Heap) (O0 : Old Z Z.heap.size h0) (F_a1_out : Fld Z h0 a1 "com/example/colophon/colophon/api/Html" "out" "Ljava/lang/StringBuilder;" (.ref a2)) (E_a2 : Exa Z h0 a2 "java/lang/StringBuilder") (F_a2_value : Fld Z h0 a2 "java/lang/AbstractStringBuilder" "value" "[B" (.ref a3)) (F_a2_count : Fld Z h0 a2 "java/lang/AbstractStringBuilder" "count" "I" (.int 0)) (SgCS : Sta Z Z.heap "java/lang/String" "COMPACT_STRINGS" "Z" (.int gCS)) (NgCS : ¬ (gCS = (0 : Int32))) (F_a2_coder : Fld Z h0 a2 "java/lang/AbstractStringBuilder" "coder" "B" (.int 0)) (V_a3 : Arv Z h0 a3 k_a3 .byte (16 : Int32) [(.int 0), (.int 0), (.int 0), (.int 0), (.int 0), (.int 0), (.int 0), (.int 0), (.int 0), (.int 0), (.int 0), (.int 0), (.int 0), (.int 0), (.int 0), (.int 0)] (.int 0)) :
    CtrN l Z (⟨"com/example/colophon/colophon/api/Html", "toString", "()Ljava/lang/String;"⟩ : MethodName) prog_5_method_8_code 1 (some (.object "java/lang/String")) [] (⟨6, 2, 4, 100⟩ : Room) #[(.ref a1)] h0 [] (fun v h => ∃ r1 : Addr, ∃ r2 : Addr, ∃ r3 : ClassId, h0.size ≤ r1 ∧ h0.size ≤ r2 ∧ Exa Z h r1 "java/lang/String" ∧ Fld Z h r1 "java/lang/String" "value" "[B" (.ref r2) ∧ Fld Z h r1 "java/lang/String" "coder" "B" (.int 0) ∧ Arv Z h r2 r3 .byte (0 : Int32) [] (.int 0) ∧ v = some (.ref r1)) := by
  refine CtrN.intro (L0 := #[.val (.ref a1)]) (plainFor_of_name pn2) O0 (own_entry rfl) ?_
  intro p e s m below meth c T0 hy hml hret hlk hnm W0
  refine o_aloadN W0 (pc' := 1) (hb hy d31_0) rfl rfl rfl ?_
  refine o_getF W0 (w29 hw) Via.refl F_a1_out (pc' := 4) (hb hy d31_1) rfl ?_
  intro T1 W1
  refine o_virtual W1 (y := (⟨"java/lang/StringBuilder", "toString", "()Ljava/lang/String;"⟩ : MethodName)) (z := (⟨"java/lang/StringBuilder", "toString", "()Ljava/lang/String;"⟩ : MethodName)) (w182 hw) (w183 hw) (o_nf W1 rfl (w185 hw)) (w185 hw) (w184 hw) (by decide) E_a2 (argsL := []) (CtrN.back (Wd := 0) W1 (rm46 l Z a0 hw gCS a2 a3 k_a3 h0 W1.old E_a2 F_a2_value F_a2_count SgCS NgCS F_a2_coder V_a3) (w186 hw) (w11 hw) (by decide) (by decide)) (by rw [hml]; rfl) (lenOf pd29 rfl) (S := []) rfl (by exact Nat.le_of_eq rfl) (pc' := 7) (hb hy d31_4) rfl (cells' := 2) (slots' := 4) rfl rfl (by decide) (by decide) (wy := []) (fun _ _ _ q => ⟨q.1, q.2.1⟩) all0 (fun _ _ => trivial) ?_
  intro v2 T2 h2 lo2 W2 K2 q2
  obtain ⟨r1_2, r2_2, r3_2, P2_0, P2_1, P2_2, P2_3, P2_4, P2_5, rfl⟩ := q2.2.2
  show Gl _ _ _ _ _ _ _ _ [(.ref r1_2)]
  exact o_retA W2 hlk (v := (.ref r1_2)) hret rfl rfl (hb hy d31_7) (by decide) (by decide) ⟨r1_2, r2_2, r3_2, (Nat.le_trans W1.keep.1 P2_0), (Nat.le_trans W1.keep.1 P2_1), P2_2, P2_3, P2_4, P2_5, rfl⟩
theorem rm48 (l : Launch) (Z : State) (a0 : Array Value) (hw : ∀ d ∈ tables_1, d.before a0 Z = true) (a1 a2 : Addr) (h0 : Heap) (O0 : Old Z Z.heap.size h0) (E_a1 : Exa Z h0 a1 "java/lang/String") (F_a1_value : Fld Z h0 a1 "java/lang/String" "value" "[B" .null) (g_a1 : Z.heap.size ≤ a1) (F_a1_coder : Fld Z h0 a1 "java/lang/String" "coder" "B" (.int 0)) :
    CtrW l Z consts_1 (⟨"java/lang/String", "<init>", "([CIILjava/lang/Void;)V"⟩ : MethodName) jdk_42_method_149_code 6 none [] (⟨1, 4, 8, 12⟩ : Room) #[(.ref a1), (.ref a2), (.int 0), (.int 0), .null] h0 [a1] (fun v h => ∃ r1 : Addr, ∃ r2 : ClassId, Fld Z h a1 "java/lang/String" "value" "[B" (.ref r1) ∧ Fld Z h a1 "java/lang/String" "coder" "B" (.int 0) ∧ Arv Z h r1 r2 .byte (0 : Int32) [] (.int 0) ∧ v = none) := by
  refine CtrW.intro (L0 := #[.val (.ref a1), .val (.ref a2), .val (.int 0), .val (.int 0), .val .null, .unset]) (plainFor_of_name pn4) O0 (own_entry rfl) ?_
  intro p e s m below meth c T0 V0 hy hml hret hlk hnm W0
  refine o_aloadN W0 (pc' := 1) (hb hy d41_0) rfl rfl rfl ?_
  refine o_initO W0 (w48 hw) (w7 hw) (w8 hw) (by rw [hml]; rfl) (pc' := 4) (hb hy d41_1) rfl (by decide) 0 (by exact Nat.le_of_eq rfl) (by decide) ?_
  intro T1 W1
  refine o_iloadN W1 (pc' := 5) (hb hy d41_4) rfl rfl ?_
  refine o_ifN W1 (pc' := 8) (hb hy d41_5) (XT.i0_ne_f (by decide)) rfl ?_
  refine o_aloadN W1 (pc' := 9) (hb hy d41_8) rfl rfl rfl ?_
  refine o_ldcR W1 (w241 hw) (own_wS hw) (own_EL hw) (by simp [consts_1]) (pc' := 11) (hb hy d41_9) rfl (n := 0) (by decide) (by decide) (cells' := 2) (slots' := 4) rfl rfl (by decide) (by decide) (vs := []) (z := (0 : Int32)) ⟨by decide, by decide⟩ (by decide) (by decide) ?_
  intro s2 T2 h2 V2 t2 k2 W2 E2 C2 X2 Fc2 Fv2 A2 ns2
  refine o_getF W2 (w49 hw) Via.refl Fv2 (pc' := 14) (hb hy d41_11) rfl ?_
  intro T3 W3
  have c4 := (E_a1.ext E2)
  have c5 := (F_a1_value.ext E2)
  have sf6 := own_safeS (EL := consts_1) W3.al c4 c5
  refine o_putF W3 (w49 hw) Via.refl c5 c4 (Or.inr ⟨(w50 hw), rfl, hnm⟩) (w40 hw) (ty := (.array .byte)) (v' := (.ref t2)) (by decide) rfl rfl g_a1 (Or.inl (List.mem_of_getElem? (i := 0) rfl)) (fun _ R => IW.wr R sf6 W3.inv) (pc' := 17) (hb hy d41_14) rfl ?_
  intro T7 h7 lo7 W7 R7
  have F7 := c5.same R7
  refine o_aloadN W7 (pc' := 18) (hb hy d41_17) rfl rfl rfl ?_
  refine o_ldcR W7 (w241 hw) (own_wS hw) (own_EL hw) (by simp [consts_1]) (pc' := 20) (hb hy d41_18) rfl (n := 0) (by decide) (by decide) (cells' := 4) (slots' := 8) rfl rfl (by decide) (by decide) (vs := []) (z := (0 : Int32)) ⟨by decide, by decide⟩ (by decide) (by decide) ?_
  intro s8 T8 h8 V8 t8 k8 W8 E8 C8 X8 Fc8 Fv8 A8 ns8
  refine o_getF W8 (w51 hw) Via.refl Fc8 (pc' := 23) (hb hy d41_20) rfl ?_
  intro T9 W9
  have c10 := ((c4.wr R7).ext E8)
  have c11 := (((F_a1_coder.ext E2).other R7 (Or.inr (slot_ne (Or.inr (w52 hw)) (Or.inr (w50 hw)) (by decide) (t := .byte) (t' := (.array .byte)) (by decide) (by decide)))).ext E8)
  have c12 := (c4.wr R7)
  have c13 := (CHr.safe C8 c12.lt (Safe.wr R7 sf6 W3.inv.2.1 sf6))
  refine o_putF W9 (w51 hw) Via.refl c11 c10 (Or.inr ⟨(w52 hw), rfl, hnm⟩) (w40 hw) (ty := .byte) (v' := (.int 0)) (by decide) rfl (by decide) g_a1 (Or.inl (List.mem_of_getElem? (i := 0) rfl)) (fun _ R => IW.wr R c13 W9.inv) (pc' := 26) (hb hy d41_23) rfl ?_
  intro T14 h14 lo14 W14 R14
  have F14 := c11.same R14
  have c15 := ((F7.ext E8).other R14 (Or.inr (slot_ne (Or.inr (w50 hw)) (Or.inr (w52 hw)) (by decide) (t := (.array .byte)) (t' := .byte) (by decide) (by decide))))
  have c16 := (c10.wr R14)
  have c17 := (((A2.other R7 (Ne.symm (ns2 _ sf6).2)).ext E8).other R14 (Ne.symm (ns2 _ sf6).2))
  exact o_ret0W W14 (own_EL hw) hlk hret (hb hy d41_26) (by decide) (by decide) ⟨t2, k2, c15, F14, c17, rfl⟩
theorem rm49 (l : Launch) (Z : State) (a0 : Array Value) (hw : ∀ d ∈ tables_1, d.before a0 Z = true) (a1 a2 : Addr) (k_a2 : ClassId) (h0 : Heap) (O0 : Old Z Z.heap.size h0) (V_a2 : Arv Z h0 a2 k_a2 .char (0 : Int32) [] (.int 0)) (E_a1 : Exa Z h0 a1 "java/lang/String") (F_a1_value : Fld Z h0 a1 "java/lang/String" "value" "[B" .null) (F_a1_coder : Fld Z h0 a1 "java/lang/String" "coder" "B" (.int 0)) (g_a1 : Z.heap.size ≤ a1) :
    CtrW l Z consts_1 (⟨"java/lang/String", "<init>", "([C)V"⟩ : MethodName) jdk_42_method_3_code 2 none [] (⟨2, 4, 8, 29⟩ : Room) #[(.ref a1), (.ref a2)] h0 [a1] (fun v h => ∃ r1 : Addr, ∃ r2 : ClassId, Fld Z h a1 "java/lang/String" "value" "[B" (.ref r1) ∧ Fld Z h a1 "java/lang/String" "coder" "B" (.int 0) ∧ Arv Z h r1 r2 .byte (0 : Int32) [] (.int 0) ∧ v = none) := by
  refine CtrW.intro (L0 := #[.val (.ref a1), .val (.ref a2)]) (plainFor_of_name pn4) O0 (own_entry rfl) ?_
  intro p e s m below meth c T0 V0 hy hml hret hlk hnm W0
  refine o_aloadN W0 (pc' := 1) (hb hy d40_0) rfl rfl rfl ?_
  refine o_aloadN W0 (pc' := 2) (hb hy d40_1) rfl rfl rfl ?_
  refine o_iconst W0 (v := 0) (pc' := 3) (hb hy d40_2) rfl rfl ?_
  refine o_aloadN W0 (pc' := 4) (hb hy d40_3) rfl rfl rfl ?_
  refine o_len W0 V_a2 (pc' := 5) (hb hy d40_4) rfl ?_
  refine o_aconstNull W0 (pc' := 6) (hb hy d40_5) rfl ?_
  refine o_specialW W0 (y := (⟨"java/lang/String", "<init>", "([CIILjava/lang/Void;)V"⟩ : MethodName)) rfl (w220 hw) (w221 hw) (w222 hw) (by decide) (a := a1) (argsL := [(.ref a2), (.int 0), (.int 0), .null]) (CtrW.back (Wd := 0) W0 (rm48 l Z a0 hw a1 a2 h0 W0.old E_a1 F_a1_value g_a1 F_a1_coder) (w222 hw) (w23 hw) (by decide) (by decide) (own_EL hw)) (by rw [hml]; rfl) (lenOf pd30 rfl) (S := []) rfl (by exact Nat.le_of_eq rfl) (pc' := 9) (hb hy d40_6) rfl (cells' := 4) (slots' := 8) rfl rfl (by decide) (by decide) (wy := [a1]) (fun _ _ _ q => ⟨q.1, q.2.1⟩) (allS ⟨g_a1, (Or.inl (List.mem_of_getElem? (i := 0) rfl))⟩ all0)  ?_
  intro v1 T1 h1 V1 lo1 W1 K1 C1 q1
  obtain ⟨r1_1, r2_1, P1_0, P1_1, P1_2, rfl⟩ := q1.2.2
  show Gl _ _ _ _ _ _ _ _ []
  have c2 := (E_a1.keep K1)
  exact o_ret0W W1 (own_EL hw) hlk hret (hb hy d40_9) (by decide) (by decide) ⟨r1_1, r2_1, P1_0, P1_1, P1_2, rfl⟩
theorem rm50 (l : Launch) (Z : State) (a0 : Array Value) (hw : ∀ d ∈ tables_1, d.before a0 Z = true) (a1 a2 : Addr) (k_a1 k_a2 : ClassId) (h0 : Heap) (O0 : Old Z Z.heap.size h0) (V_a1 : Arv Z h0 a1 k_a1 .byte (0 : Int32) [] (.int 0)) (V_a2 : Arv Z h0 a2 k_a2 .byte (0 : Int32) [] (.int 0)) :
    CtrN l Z (⟨"java/lang/StringLatin1", "equals", "([B[B)Z"⟩ : MethodName) jdk_43_method_13_code 3 (some .boolean) [] (⟨0, 0, 0, 0⟩ : Room) #[(.ref a1), (.ref a2)] h0 [] (fun v h => v = some (.int 1)) := by
  refine CtrN.intro (L0 := #[.val (.ref a1), .val (.ref a2), .unset]) (plainFor_of_name pn3) O0 (own_entry rfl) ?_
  intro p e s m below meth c T0 hy hml hret hlk hnm W0
  refine o_aloadN W0 (pc' := 1) (hb hy d46_0) rfl rfl rfl ?_
  refine o_len W0 V_a1 (pc' := 2) (hb hy d46_1) rfl ?_
  refine o_aloadN W0 (pc' := 3) (hb hy d46_2) rfl rfl rfl ?_
  refine o_len W0 V_a2 (pc' := 4) (hb hy d46_3) rfl ?_
  refine o_icmpN W0 (pc' := 7) (hb hy d46_4) (XT.ii_ne_f (by decide)) rfl ?_
  refine o_iconst W0 (v := 0) (pc' := 8) (hb hy d46_7) rfl rfl ?_
  refine o_istoreN W0 (L' := #[.val (.ref a1), .val (.ref a2), .val (.int 0)]) (pc' := 9) (hb hy d46_8) rfl rfl ?_
  refine o_iloadN W0 (pc' := 10) (hb hy d46_9) rfl rfl ?_
  refine o_aloadN W0 (pc' := 11) (hb hy d46_10) rfl rfl rfl ?_
  refine o_len W0 V_a1 (pc' := 12) (hb hy d46_11) rfl ?_
  refine o_icmpY W0 (pc' := 32) (hb hy d46_12) (XT.ii_ge_t (by decide)) (by decide) rfl ?_
  refine o_iconst W0 (v := 1) (pc' := 33) (hb hy d46_32) rfl rfl ?_
  exact o_retN W0 hlk (t := .boolean) hret (by simp) (z' := (1 : Int32)) (by decide) (hb hy d46_33) (by decide) (by decide) rfl
theorem rm51 (l : Launch) (Z : State) (a0 : Array Value) (hw : ∀ d ∈ tables_1, d.before a0 Z = true) (gCS : Int32) (a1 a2 a3 a4 : Addr) (k_a3 k_a4 : ClassId) (h0 : Heap) (O0 : Old Z Z.heap.size h0) (E_a1 : Exa Z h0 a1 "java/lang/String") (E_a2 : Exa Z h0 a2 "java/lang/String") (ne_a1_a2 : a1 ≠ a2) (SgCS : Sta Z Z.heap "java/lang/String" "COMPACT_STRINGS" "Z" (.int gCS)) (NgCS : ¬ (gCS = (0 : Int32))) (F_a1_coder : Fld Z h0 a1 "java/lang/String" "coder" "B" (.int 0)) (F_a2_coder : Fld Z h0 a2 "java/lang/String" "coder" "B" (.int 0)) (F_a1_value : Fld Z h0 a1 "java/lang/String" "value" "[B" (.ref a3)) (F_a2_value : Fld Z h0 a2 "java/lang/String" "value" "[B" (.ref a4)) (V_a3 : Arv Z h0 a3 k_a3 .byte (0 : Int32) [] (.int 0)) (V_a4 : Arv Z h0 a4 k_a4 .byte (0 : Int32) [] (.int 0)) :
    CtrN l Z (⟨"java/lang/String", "equals", "(Ljava/lang/Object;)Z"⟩ : MethodName) jdk_42_method_66_code 3 (some .boolean) [] (⟨1, 0, 0, 14⟩ : Room) #[(.ref a1), (.ref a2)] h0 [] (fun v h => v = some (.int 1)) := by
  refine CtrN.intro (L0 := #[.val (.ref a1), .val (.ref a2), .unset]) (plainFor_of_name pn4) O0 (own_entry rfl) ?_
  intro p e s m below meth c T0 hy hml hret hlk hnm W0
  refine o_aloadN W0 (pc' := 1) (hb hy d45_0) rfl rfl rfl ?_
  refine o_aloadN W0 (pc' := 2) (hb hy d45_1) rfl rfl rfl ?_
  refine o_acmpY W0 (pc' := 7) (hb hy d45_2) rfl rfl (XT.aa_ne_t (fun q => ne_a1_a2 (Value.ref.inj q))) (by decide) rfl ?_
  refine o_aloadN W0 (pc' := 8) (hb hy d45_7) rfl rfl rfl ?_
  refine o_instY W0 (w39 hw) (Ins.self E_a2) (pc' := 11) (hb hy d45_8) rfl ?_
  intro T1 W1
  refine o_ifN W1 (pc' := 14) (hb hy d45_11) (XT.i0_eq_f (by decide)) rfl ?_
  refine o_aloadN W1 (pc' := 15) (hb hy d45_14) rfl rfl rfl ?_
  refine o_cast W1 (w39 hw) (Ins.self E_a2) (pc' := 18) (hb hy d45_15) rfl ?_
  intro T2 W2
  refine o_astoreN W2 (L' := #[.val (.ref a1), .val (.ref a2), .val (.ref a2)]) (pc' := 19) (hb hy d45_18) rfl rfl rfl ?_
  refine o_getS W2 (w34 hw) Via.refl (SgCS.ext W2.ox) (pc' := 22) (hb hy d45_19) rfl ?_
  intro T3 W3
  refine o_ifN W3 (pc' := 25) (hb hy d45_22) (XT.i0_eq_f NgCS) rfl ?_
  refine o_aloadN W3 (pc' := 26) (hb hy d45_25) rfl rfl rfl ?_
  refine o_getF W3 (w51 hw) Via.refl F_a1_coder (pc' := 29) (hb hy d45_26) rfl ?_
  intro T4 W4
  refine o_aloadN W4 (pc' := 30) (hb hy d45_29) rfl rfl rfl ?_
  refine o_getF W4 (w51 hw) Via.refl F_a2_coder (pc' := 33) (hb hy d45_30) rfl ?_
  intro T5 W5
  refine o_icmpN W5 (pc' := 36) (hb hy d45_33) (XT.ii_ne_f (by decide)) rfl ?_
  refine o_aloadN W5 (pc' := 37) (hb hy d45_36) rfl rfl rfl ?_
  refine o_getF W5 (w49 hw) Via.refl F_a1_value (pc' := 40) (hb hy d45_37) rfl ?_
  intro T6 W6
  refine o_aloadN W6 (pc' := 41) (hb hy d45_40) rfl rfl rfl ?_
  refine o_getF W6 (w49 hw) Via.refl F_a2_value (pc' := 44) (hb hy d45_41) rfl ?_
  intro T7 W7
  refine o_static W7 (y := (⟨"java/lang/StringLatin1", "equals", "([B[B)Z"⟩ : MethodName)) (w238 hw) (w239 hw) (w37 hw) (w240 hw) (by decide) (argsL := [(.ref a3), (.ref a4)]) (CtrN.back (Wd := 0) W7 (rm50 l Z a0 hw a3 a4 k_a3 k_a4 h0 W7.old V_a3 V_a4) (w240 hw) (w37 hw) (by decide) (by decide)) (by rw [hml]; rfl) (lenOf pd32 rfl) (S := []) rfl (by exact Nat.le_of_eq rfl) (pc' := 47) (hb hy d45_44) rfl (cells' := 0) (slots' := 0) rfl rfl (by decide) (by decide) (wy := []) (fun _ _ _ q => ⟨q.1, q.2.1⟩) all0 (fun _ _ => trivial) ?_
  intro v8 T8 h8 lo8 W8 K8 q8
  obtain rfl := q8.2.2
  show Gl _ _ _ _ _ _ _ _ [(.int 1)]
  refine o_ifN W8 (pc' := 50) (hb hy d45_47) (XT.i0_eq_f (by decide)) rfl ?_
  refine o_iconst W8 (v := 1) (pc' := 51) (hb hy d45_50) rfl rfl ?_
  refine o_goto W8 (pc' := 55) (hb hy d45_51) (by decide) rfl ?_
  exact o_retN W8 hlk (t := .boolean) hret (by simp) (z' := (1 : Int32)) (by decide) (hb hy d45_55) (by decide) (by decide) rfl
theorem rm52 (l : Launch) (Z : State) (a0 : Array Value) (hw : ∀ d ∈ tables_1, d.before a0 Z = true) (a1 : Addr) (h0 : Heap) (O0 : Old Z Z.heap.size h0) (F_a1_count : Fld Z h0 a1 "java/lang/AbstractStringBuilder" "count" "I" (.int 4)) :
    CtrN l Z (⟨"java/lang/AbstractStringBuilder", "length", "()I"⟩ : MethodName) jdk_68_method_6_code 1 (some .int) [] (⟨0, 0, 0, 0⟩ : Room) #[(.ref a1)] h0 [] (fun v h => v = some (.int 4)) := by
  refine CtrN.intro (L0 := #[.val (.ref a1)]) (plainFor_of_name pn0) O0 (own_entry rfl) ?_
  intro p e s m below meth c T0 hy hml hret hlk hnm W0
  refine o_aloadN W0 (pc' := 1) (hb hy d26_0) rfl rfl rfl ?_
  refine o_getF W0 (w81 hw) Via.refl F_a1_count (pc' := 4) (hb hy d26_1) rfl ?_
  intro T1 W1
  exact o_retI W1 hlk hret (hb hy d26_4) (by decide) (by decide) rfl
theorem rm53 (l : Launch) (Z : State) (a0 : Array Value) (hw : ∀ d ∈ tables_1, d.before a0 Z = true) (a1 : Addr) (h0 : Heap) (O0 : Old Z Z.heap.size h0) (F_a1_count : Fld Z h0 a1 "java/lang/AbstractStringBuilder" "count" "I" (.int 4)) (E_a1 : Exa Z h0 a1 "java/lang/StringBuilder") :
    CtrN l Z (⟨"java/lang/StringBuilder", "length", "()I"⟩ : MethodName) jdk_67_method_93_code 1 (some .int) [] (⟨1, 0, 0, 12⟩ : Room) #[(.ref a1)] h0 [] (fun v h => v = some (.int 4)) := by
  refine CtrN.intro (L0 := #[.val (.ref a1)]) (plainFor_of_name pn1) O0 (own_entry rfl) ?_
  intro p e s m below meth c T0 hy hml hret hlk hnm W0
  refine o_aloadN W0 (pc' := 1) (hb hy d25_0) rfl rfl rfl ?_
  refine o_super W0 (y := (⟨"java/lang/AbstractStringBuilder", "length", "()I"⟩ : MethodName)) (by decide) (w152 hw) (w148 hw) (own_sameM (y := (⟨"java/lang/AbstractStringBuilder", "length", "()I"⟩ : MethodName)) (by decide) (w148 hw) (w138 hw)) (w68 hw) (w153 hw) (Ins.self E_a1) (argsL := []) (CtrN.back (Wd := 0) W0 (rm52 l Z a0 hw a1 h0 W0.old F_a1_count) (w153 hw) (w19 hw) (by decide) (by decide)) (by rw [hml]; rfl) (lenOf pd2 rfl) (S := []) rfl (by exact Nat.le_of_eq rfl) (pc' := 4) (hb hy d25_1) rfl (cells' := 0) (slots' := 0) rfl rfl (by decide) (by decide) (wy := []) (fun _ _ _ q => ⟨q.1, q.2.1⟩) all0 (fun _ _ => trivial) ?_
  intro v1 T1 h1 lo1 W1 K1 q1
  obtain rfl := q1.2.2
  show Gl _ _ _ _ _ _ _ _ [(.int 4)]
  exact o_retI W1 hlk hret (hb hy d25_4) (by decide) (by decide) rfl
theorem rm54 (l : Launch) (Z : State) (a0 : Array Value) (hw : ∀ d ∈ tables_1, d.before a0 Z = true)  (h0 : Heap) (O0 : Old Z Z.heap.size h0) :
    CtrN l Z (⟨"java/util/Arrays", "checkLength", "(II)V"⟩ : MethodName) jdk_65_method_131_code 2 none [] (⟨0, 0, 0, 0⟩ : Room) #[(.int 0), (.int 4)] h0 [] (fun v h => v = none) := by
  refine CtrN.intro (L0 := #[.val (.int 0), .val (.int 4)]) (plainFor_of_name pn6) O0 (own_entry rfl) ?_
  intro p e s m below meth c T0 hy hml hret hlk hnm W0
  refine o_iloadN W0 (pc' := 1) (hb hy d38_0) rfl rfl ?_
  refine o_iloadN W0 (pc' := 2) (hb hy d38_1) rfl rfl ?_
  refine o_icmpY W0 (pc' := 37) (hb hy d38_2) (XT.ii_ge_t (by decide)) (by decide) rfl ?_
  exact o_ret0 W0 hlk hret (hb hy d38_37) (by decide) (by decide) rfl
theorem rm55 (l : Launch) (Z : State) (a0 : Array Value) (hw : ∀ d ∈ tables_1, d.before a0 Z = true)  (h0 : Heap) (O0 : Old Z Z.heap.size h0) :
    CtrN l Z (⟨"java/lang/Math", "min", "(II)I"⟩ : MethodName) jdk_29_method_69_code 2 (some .int) [] (⟨0, 0, 0, 0⟩ : Room) #[(.int 16), (.int 4)] h0 [] (fun v h => v = some (.int 4)) := by
  refine CtrN.intro (L0 := #[.val (.int 16), .val (.int 4)]) (Jvm.Free.JP.mathPlain rfl (by decide +kernel)) O0 (own_entry rfl) ?_
  intro p e s m below meth c T0 hy hml hret hlk hnm W0
  refine o_iloadN W0 (pc' := 1) (hb hy d39_0) rfl rfl ?_
  refine o_iloadN W0 (pc' := 2) (hb hy d39_1) rfl rfl ?_
  refine o_icmpY W0 (pc' := 9) (hb hy d39_2) (XT.ii_gt_t (by decide)) (by decide) rfl ?_
  refine o_iloadN W0 (pc' := 10) (hb hy d39_9) rfl rfl ?_
  exact o_retI W0 hlk hret (hb hy d39_10) (by decide) (by decide) rfl
theorem rm56 (l : Launch) (Z : State) (a0 : Array Value) (hw : ∀ d ∈ tables_1, d.before a0 Z = true) (a1 : Addr) (k_a1 : ClassId) (x1 x2 x3 : Int32) (h0 : Heap) (O0 : Old Z Z.heap.size h0) (V_a1 : Arv Z h0 a1 k_a1 .byte (16 : Int32) [(.int x1), (.int x2), (.int x3), (.int 62), (.int 0), (.int 0), (.int 0), (.int 0), (.int 0), (.int 0), (.int 0), (.int 0), (.int 0), (.int 0), (.int 0), (.int 0)] (.int 0)) :
    CtrN l Z (⟨"java/util/Arrays", "copyOfRangeByte", "([BII)[B"⟩ : MethodName) jdk_65_method_133_code 5 (some (.array .byte)) [] (⟨1, 1, 4, 27⟩ : Room) #[(.ref a1), (.int 0), (.int 4)] h0 [] (fun v h => ∃ r1 : Addr, ∃ r2 : ClassId, h0.size ≤ r1 ∧ Arv Z h r1 r2 .byte (4 : Int32) [(.int x1), (.int x2), (.int x3), (.int 62)] (.int 0) ∧ v = some (.ref r1)) := by
  refine CtrN.intro (L0 := #[.val (.ref a1), .val (.int 0), .val (.int 4), .unset, .unset]) (plainFor_of_name pn6) O0 (own_entry rfl) ?_
  intro p e s m below meth c T0 hy hml hret hlk hnm W0
  refine o_iloadN W0 (pc' := 1) (hb hy d37_0) rfl rfl ?_
  refine o_iloadN W0 (pc' := 2) (hb hy d37_1) rfl rfl ?_
  refine o_static W0 (y := (⟨"java/util/Arrays", "checkLength", "(II)V"⟩ : MethodName)) (w208 hw) (w209 hw) (w203 hw) (w210 hw) (by decide) (argsL := [(.int 0), (.int 4)]) (CtrN.back (Wd := 0) W0 (rm54 l Z a0 hw  h0 W0.old ) (w210 hw) (w203 hw) (by decide) (by decide)) (by rw [hml]; rfl) (lenOf pd24 rfl) (S := []) rfl (by exact Nat.le_of_eq rfl) (pc' := 5) (hb hy d37_2) rfl (cells' := 0) (slots' := 0) rfl rfl (by decide) (by decide) (wy := []) (fun _ _ _ q => ⟨q.1, q.2.1⟩) all0 (fun _ _ => trivial) ?_
  intro v1 T1 h1 lo1 W1 K1 q1
  obtain rfl := q1.2.2
  show Gl _ _ _ _ _ _ _ _ []
  refine o_iloadN W1 (pc' := 6) (hb hy d37_5) rfl rfl ?_
  refine o_iloadN W1 (pc' := 7) (hb hy d37_6) rfl rfl ?_
  refine o_isub W1 (v := 4) (pc' := 8) (hb hy d37_7) (by decide) rfl ?_
  refine o_istoreN W1 (L' := #[.val (.ref a1), .val (.int 0), .val (.int 4), .val (.int 4), .unset]) (pc' := 9) (hb hy d37_8) rfl rfl ?_
  refine o_iloadN W1 (pc' := 10) (hb hy d37_9) rfl rfl ?_
  refine o_newP W1 (aty := .byte) (w24 hw) (fun _ _ => trivial) (by decide) (cap := 4) (by decide) (by decide) (pc' := 12) (hb hy d37_10) rfl (cells' := 1) (slots' := 4) rfl rfl (by decide) (by decide) (vs := [(.int 0), (.int 0), (.int 0), (.int 0)]) (dv := (.int 0)) rfl rfl ?_
  intro b2 T2 h2 k2 W2 E2 ge2 gz2 gb2 V2
  refine o_astore W2 (L' := #[.val (.ref a1), .val (.int 0), .val (.int 4), .val (.int 4), .val (.ref b2)]) (pc' := 14) (hb hy d37_12) rfl rfl rfl ?_
  refine o_aloadN W2 (pc' := 15) (hb hy d37_14) rfl rfl rfl ?_
  refine o_iloadN W2 (pc' := 16) (hb hy d37_15) rfl rfl ?_
  refine o_aload W2 (pc' := 18) (hb hy d37_16) rfl rfl rfl ?_
  refine o_iconst W2 (v := 0) (pc' := 19) (hb hy d37_18) rfl rfl ?_
  refine o_aloadN W2 (pc' := 20) (hb hy d37_19) rfl rfl rfl ?_
  have c3 := ((V_a1.keep K1 nin0).ext E2)
  refine o_len W2 c3 (pc' := 21) (hb hy d37_20) rfl ?_
  refine o_iloadN W2 (pc' := 22) (hb hy d37_21) rfl rfl ?_
  refine o_isub W2 (v := 16) (pc' := 23) (hb hy d37_22) (by decide) rfl ?_
  refine o_iloadN W2 (pc' := 24) (hb hy d37_23) rfl rfl ?_
  refine o_static W2 (y := (⟨"java/lang/Math", "min", "(II)I"⟩ : MethodName)) (w211 hw) (w212 hw) (w213 hw) (w214 hw) (by decide) (argsL := [(.int 16), (.int 4)]) (CtrN.back (Wd := 4) W2 (rm55 l Z a0 hw  h2 W2.old ) (w214 hw) (w213 hw) (by decide) (by decide)) (by rw [hml]; rfl) (lenOf pd25 rfl) (S := [(.int 0), (.ref b2), (.int 0), (.ref a1)]) rfl (by exact Nat.le_of_eq rfl) (pc' := 27) (hb hy d37_24) rfl (cells' := 1) (slots' := 4) rfl rfl (by decide) (by decide) (wy := []) (fun _ _ _ q => ⟨q.1, q.2.1⟩) all0 (fun _ _ => trivial) ?_
  intro v4 T4 h4 lo4 W4 K4 q4
  obtain rfl := q4.2.2
  show Gl _ _ _ _ _ _ _ _ [(.int 4), (.int 0), (.ref b2), (.int 0), (.ref a1)]
  have c5 := (c3.keep K4 nin0)
  have c6 := (V2.keep K4 nin0)
  refine o_copy W4 (w215 hw) (w107 hw) (w105 hw) (w106 hw) c5 c6 (us := [(.int x1), (.int x2), (.int x3), (.int 62)]) (Or.inl ⟨rfl, rfl⟩) (by decide) (by decide) (by decide) (by decide) (by decide) rfl (Nat.le_of_ble_eq_true rfl) (vd' := [(.int x1), (.int x2), (.int x3), (.int 62)]) rfl gz2 (Or.inr gb2) (fun _ _ => trivial) (by rw [hml]; rfl) (pc' := 30) (hb hy d37_27) rfl (by decide) 0 (by exact Nat.le_of_eq rfl) (by decide) ?_
  intro T7 h7 lo7 W7 K7 V7
  refine o_aload W7 (pc' := 32) (hb hy d37_30) rfl rfl rfl ?_
  exact o_retA W7 hlk (v := (.ref b2)) hret rfl rfl (hb hy d37_32) (by decide) (by decide) ⟨b2, k2, gb2, V7, rfl⟩
theorem rm57 (l : Launch) (Z : State) (a0 : Array Value) (hw : ∀ d ∈ tables_1, d.before a0 Z = true) (a1 : Addr) (k_a1 : ClassId) (x1 x2 x3 : Int32) (h0 : Heap) (O0 : Old Z Z.heap.size h0) (V_a1 : Arv Z h0 a1 k_a1 .byte (16 : Int32) [(.int x1), (.int x2), (.int x3), (.int 62), (.int 0), (.int 0), (.int 0), (.int 0), (.int 0), (.int 0), (.int 0), (.int 0), (.int 0), (.int 0), (.int 0), (.int 0)] (.int 0)) :
    CtrN l Z (⟨"java/util/Arrays", "copyOfRange", "([BII)[B"⟩ : MethodName) jdk_65_method_132_code 3 (some (.array .byte)) [] (⟨2, 1, 4, 43⟩ : Room) #[(.ref a1), (.int 0), (.int 4)] h0 [] (fun v h => ∃ r1 : Addr, ∃ r2 : ClassId, h0.size ≤ r1 ∧ Arv Z h r1 r2 .byte (4 : Int32) [(.int x1), (.int x2), (.int x3), (.int 62)] (.int 0) ∧ v = some (.ref r1)) := by
  refine CtrN.intro (L0 := #[.val (.ref a1), .val (.int 0), .val (.int 4)]) (plainFor_of_name pn6) O0 (own_entry rfl) ?_
  intro p e s m below meth c T0 hy hml hret hlk hnm W0
  refine o_iloadN W0 (pc' := 1) (hb hy d36_0) rfl rfl ?_
  refine o_ifN W0 (pc' := 4) (hb hy d36_1) (XT.i0_ne_f (by decide)) rfl ?_
  refine o_iloadN W0 (pc' := 5) (hb hy d36_4) rfl rfl ?_
  refine o_aloadN W0 (pc' := 6) (hb hy d36_5) rfl rfl rfl ?_
  refine o_len W0 V_a1 (pc' := 7) (hb hy d36_6) rfl ?_
  refine o_icmpN W0 (pc' := 10) (hb hy d36_7) (XT.ii_eq_f (by decide)) rfl ?_
  refine o_aloadN W0 (pc' := 11) (hb hy d36_10) rfl rfl rfl ?_
  refine o_iloadN W0 (pc' := 12) (hb hy d36_11) rfl rfl ?_
  refine o_iloadN W0 (pc' := 13) (hb hy d36_12) rfl rfl ?_
  refine o_static W0 (y := (⟨"java/util/Arrays", "copyOfRangeByte", "([BII)[B"⟩ : MethodName)) (w205 hw) (w206 hw) (w203 hw) (w207 hw) (by decide) (argsL := [(.ref a1), (.int 0), (.int 4)]) (CtrN.back (Wd := 0) W0 (rm56 l Z a0 hw a1 k_a1 x1 x2 x3 h0 W0.old V_a1) (w207 hw) (w203 hw) (by decide) (by decide)) (by rw [hml]; rfl) (lenOf pd26 rfl) (S := []) rfl (by exact Nat.le_of_eq rfl) (pc' := 16) (hb hy d36_13) rfl (cells' := 1) (slots' := 4) rfl rfl (by decide) (by decide) (wy := []) (fun _ _ _ q => ⟨q.1, q.2.1⟩) all0 (fun _ _ => trivial) ?_
  intro v1 T1 h1 lo1 W1 K1 q1
  obtain ⟨r1_1, r2_1, P1_0, P1_1, rfl⟩ := q1.2.2
  show Gl _ _ _ _ _ _ _ _ [(.ref r1_1)]
  exact o_retA W1 hlk (v := (.ref r1_1)) hret rfl rfl (hb hy d36_16) (by decide) (by decide) ⟨r1_1, r2_1, (Nat.le_trans W0.keep.1 P1_0), P1_1, rfl⟩
theorem rm58 (l : Launch) (Z : State) (a0 : Array Value) (hw : ∀ d ∈ tables_1, d.before a0 Z = true) (gCS : Int32) (a1 a2 a3 : Addr) (k_a3 : ClassId) (x1 x2 x3 : Int32) (h0 : Heap) (O0 : Old Z Z.heap.size h0) (E_a2 : Exa Z h0 a2 "java/lang/StringBuilder") (F_a2_value : Fld Z h0 a2 "java/lang/AbstractStringBuilder" "value" "[B" (.ref a3)) (F_a2_count : Fld Z h0 a2 "java/lang/AbstractStringBuilder" "count" "I" (.int 4)) (SgCS : Sta Z Z.heap "java/lang/String" "COMPACT_STRINGS" "Z" (.int gCS)) (NgCS : ¬ (gCS = (0 : Int32))) (F_a2_coder : Fld Z h0 a2 "java/lang/AbstractStringBuilder" "coder" "B" (.int 0)) (E_a1 : Exa Z h0 a1 "java/lang/String") (F_a1_coder : Fld Z h0 a1 "java/lang/String" "coder" "B" (.int 0)) (g_a1 : Z.heap.size ≤ a1) (V_a3 : Arv Z h0 a3 k_a3 .byte (16 : Int32) [(.int x1), (.int x2), (.int x3), (.int 62), (.int 0), (.int 0), (.int 0), (.int 0), (.int 0), (.int 0), (.int 0), (.int 0), (.int 0), (.int 0), (.int 0), (.int 0)] (.int 0)) (F_a1_value : Fld Z h0 a1 "java/lang/String" "value" "[B" .null) :
    CtrN l Z (⟨"java/lang/String", "<init>", "(Ljava/lang/AbstractStringBuilder;Ljava/lang/Void;)V"⟩ : MethodName) jdk_42_method_150_code 5 none [] (⟨3, 1, 4, 58⟩ : Room) #[(.ref a1), (.ref a2), .null] h0 [a1] (fun v h => ∃ r1 : Addr, ∃ r2 : ClassId, h0.size ≤ r1 ∧ Fld Z h a1 "java/lang/String" "coder" "B" (.int 0) ∧ Fld Z h a1 "java/lang/String" "value" "[B" (.ref r1) ∧ Arv Z h r1 r2 .byte (4 : Int32) [(.int x1), (.int x2), (.int x3), (.int 62)] (.int 0) ∧ v = none) := by
  refine CtrN.intro (L0 := #[.val (.ref a1), .val (.ref a2), .val .null, .unset, .unset]) (plainFor_of_name pn4) O0 (own_entry rfl) ?_
  intro p e s m below meth c T0 hy hml hret hlk hnm W0
  refine o_aloadN W0 (pc' := 1) (hb hy d34_0) rfl rfl rfl ?_
  refine o_initO W0 (w48 hw) (w7 hw) (w8 hw) (by rw [hml]; rfl) (pc' := 4) (hb hy d34_1) rfl (by decide) 0 (by exact Nat.le_of_eq rfl) (by decide) ?_
  intro T1 W1
  refine o_aloadN W1 (pc' := 5) (hb hy d34_4) rfl rfl rfl ?_
  refine o_virtual W1 (y := (⟨"java/lang/AbstractStringBuilder", "getValue", "()[B"⟩ : MethodName)) (z := (⟨"java/lang/AbstractStringBuilder", "getValue", "()[B"⟩ : MethodName)) (w194 hw) (w195 hw) (o_nf W1 rfl (w197 hw)) (w197 hw) (w196 hw) (by decide) E_a2 (argsL := []) (CtrN.back (Wd := 0) W1 (rm39 l Z a0 hw a2 a3 h0 W1.old F_a2_value) (w198 hw) (w19 hw) (by decide) (by decide)) (by rw [hml]; rfl) (lenOf pd23 rfl) (S := []) rfl (by exact Nat.le_of_eq rfl) (pc' := 8) (hb hy d34_5) rfl (cells' := 0) (slots' := 0) rfl rfl (by decide) (by decide) (wy := []) (fun _ _ _ q => ⟨q.1, q.2.1⟩) all0 (fun _ _ => trivial) ?_
  intro v2 T2 h2 lo2 W2 K2 q2
  obtain rfl := q2.2.2
  show Gl _ _ _ _ _ _ _ _ [(.ref a3)]
  refine o_astoreN W2 (L' := #[.val (.ref a1), .val (.ref a2), .val .null, .val (.ref a3), .unset]) (pc' := 9) (hb hy d34_8) rfl rfl rfl ?_
  refine o_aloadN W2 (pc' := 10) (hb hy d34_9) rfl rfl rfl ?_
  have c3 := (F_a2_count.keep K2 nin0)
  have c4 := (E_a2.keep K2)
  refine o_virtual W2 (y := (⟨"java/lang/AbstractStringBuilder", "length", "()I"⟩ : MethodName)) (z := (⟨"java/lang/StringBuilder", "length", "()I"⟩ : MethodName)) (w199 hw) (w147 hw) (nf_super (args := #[]) (mvT W2.2.2.2.1 (w138 hw))) (w149 hw) (w150 hw) (by decide) c4 (argsL := []) (CtrN.back (Wd := 0) W2 (rm53 l Z a0 hw a2 h2 W2.old c3 c4) (w151 hw) (w11 hw) (by decide) (by decide)) (by rw [hml]; rfl) (lenOf pd2 rfl) (S := []) rfl (by exact Nat.le_of_eq rfl) (pc' := 13) (hb hy d34_10) rfl (cells' := 0) (slots' := 0) rfl rfl (by decide) (by decide) (wy := []) (fun _ _ _ q => ⟨q.1, q.2.1⟩) all0 (fun _ _ => trivial) ?_
  intro v5 T5 h5 lo5 W5 K5 q5
  obtain rfl := q5.2.2
  show Gl _ _ _ _ _ _ _ _ [(.int 4)]
  refine o_istore W5 (L' := #[.val (.ref a1), .val (.ref a2), .val .null, .val (.ref a3), .val (.int 4)]) (pc' := 15) (hb hy d34_13) rfl rfl ?_
  refine o_aloadN W5 (pc' := 16) (hb hy d34_15) rfl rfl rfl ?_
  have c6 := ((F_a2_coder.keep K2 nin0).keep K5 nin0)
  have c7 := (c4.keep K5)
  refine o_virtual W5 (y := (⟨"java/lang/AbstractStringBuilder", "isLatin1", "()Z"⟩ : MethodName)) (z := (⟨"java/lang/AbstractStringBuilder", "isLatin1", "()Z"⟩ : MethodName)) (w200 hw) (w118 hw) (o_nf W5 rfl (w120 hw)) (w120 hw) (w119 hw) (by decide) c7 (argsL := []) (CtrN.back (Wd := 0) W5 (rm33 l Z a0 hw gCS a2 h5 W5.old SgCS NgCS c6) (w121 hw) (w19 hw) (by decide) (by decide)) (by rw [hml]; rfl) (lenOf pd18 rfl) (S := []) rfl (by exact Nat.le_of_eq rfl) (pc' := 19) (hb hy d34_16) rfl (cells' := 0) (slots' := 0) rfl rfl (by decide) (by decide) (wy := []) (fun _ _ _ q => ⟨q.1, q.2.1⟩) all0 (fun _ _ => trivial) ?_
  intro v8 T8 h8 lo8 W8 K8 q8
  obtain rfl := q8.2.2
  show Gl _ _ _ _ _ _ _ _ [(.int 1)]
  refine o_ifN W8 (pc' := 22) (hb hy d34_19) (XT.i0_eq_f (by decide)) rfl ?_
  refine o_aloadN W8 (pc' := 23) (hb hy d34_22) rfl rfl rfl ?_
  refine o_iconst W8 (v := 0) (pc' := 24) (hb hy d34_23) rfl rfl ?_
  have c9 := (((E_a1.keep K2).keep K5).keep K8)
  have c10 := (((F_a1_coder.keep K2 nin0).keep K5 nin0).keep K8 nin0)
  refine o_putF W8 (w51 hw) Via.refl c10 c9 (Or.inr ⟨(w52 hw), rfl, hnm⟩) (w40 hw) (ty := .byte) (v' := (.int 0)) (by decide) rfl (by decide) g_a1 (Or.inl (List.mem_of_getElem? (i := 0) rfl)) (fun _ _ => trivial) (pc' := 27) (hb hy d34_24) rfl ?_
  intro T11 h11 lo11 W11 R11
  have F11 := c10.same R11
  refine o_aloadN W11 (pc' := 28) (hb hy d34_27) rfl rfl rfl ?_
  refine o_aloadN W11 (pc' := 29) (hb hy d34_28) rfl rfl rfl ?_
  refine o_iconst W11 (v := 0) (pc' := 30) (hb hy d34_29) rfl rfl ?_
  refine o_iload W11 (pc' := 32) (hb hy d34_30) rfl rfl ?_
  have c12 := (c9.wr R11)
  have c13 := (((V_a3.keep K2 nin0).keep K5 nin0).keep K8 nin0)
  have c14 := ((((V_a3.keep K2 nin0).keep K5 nin0).keep K8 nin0).other R11 (Ne.symm (Exa.neArv c9 c13 (w40 hw))))
  refine o_static W11 (y := (⟨"java/util/Arrays", "copyOfRange", "([BII)[B"⟩ : MethodName)) (w201 hw) (w202 hw) (w203 hw) (w204 hw) (by decide) (argsL := [(.ref a3), (.int 0), (.int 4)]) (CtrN.back (Wd := 1) W11 (rm57 l Z a0 hw a3 k_a3 x1 x2 x3 h11 W11.old c14) (w204 hw) (w203 hw) (by decide) (by decide)) (by rw [hml]; rfl) (lenOf pd26 rfl) (S := [(.ref a1)]) rfl (by exact Nat.le_of_eq rfl) (pc' := 35) (hb hy d34_32) rfl (cells' := 1) (slots' := 4) rfl rfl (by decide) (by decide) (wy := []) (fun _ _ _ q => ⟨q.1, q.2.1⟩) all0 (fun _ _ => trivial) ?_
  intro v15 T15 h15 lo15 W15 K15 q15
  obtain ⟨r1_15, r2_15, P15_0, P15_1, rfl⟩ := q15.2.2
  show Gl _ _ _ _ _ _ _ _ [(.ref r1_15), (.ref a1)]
  have c16 := (c12.keep K15)
  have c17 := (((((F_a1_value.keep K2 nin0).keep K5 nin0).keep K8 nin0).other R11 (Or.inr (slot_ne (Or.inr (w50 hw)) (Or.inr (w52 hw)) (by decide) (t := (.array .byte)) (t' := .byte) (by decide) (by decide)))).keep K15 nin0)
  refine o_putF W15 (w49 hw) Via.refl c17 c16 (Or.inr ⟨(w50 hw), rfl, hnm⟩) (w40 hw) (ty := (.array .byte)) (v' := (.ref r1_15)) (by decide) rfl rfl g_a1 (Or.inl (List.mem_of_getElem? (i := 0) rfl)) (fun _ _ => trivial) (pc' := 38) (hb hy d34_35) rfl ?_
  intro T18 h18 lo18 W18 R18
  have F18 := c17.same R18
  refine o_goto W18 (pc' := 97) (hb hy d34_38) (by decide) rfl ?_
  have c19 := ((F11.keep K15 nin0).other R18 (Or.inr (slot_ne (Or.inr (w52 hw)) (Or.inr (w50 hw)) (by decide) (t := .byte) (t' := (.array .byte)) (by decide) (by decide))))
  have c20 := (c16.wr R18)
  have c21 := (P15_1.other R18 (own_ne' c12.lt P15_0))
  exact o_ret0 W18 hlk hret (hb hy d34_97) (by decide) (by decide) ⟨r1_15, r2_15, (Nat.le_trans W11.keep.1 P15_0), c19, F18, c21, rfl⟩
theorem rm59 (l : Launch) (Z : State) (a0 : Array Value) (hw : ∀ d ∈ tables_1, d.before a0 Z = true) (gCS : Int32) (a1 a2 a3 : Addr) (k_a3 : ClassId) (x1 x2 x3 : Int32) (h0 : Heap) (O0 : Old Z Z.heap.size h0) (E_a2 : Exa Z h0 a2 "java/lang/StringBuilder") (F_a2_value : Fld Z h0 a2 "java/lang/AbstractStringBuilder" "value" "[B" (.ref a3)) (F_a2_count : Fld Z h0 a2 "java/lang/AbstractStringBuilder" "count" "I" (.int 4)) (SgCS : Sta Z Z.heap "java/lang/String" "COMPACT_STRINGS" "Z" (.int gCS)) (NgCS : ¬ (gCS = (0 : Int32))) (F_a2_coder : Fld Z h0 a2 "java/lang/AbstractStringBuilder" "coder" "B" (.int 0)) (E_a1 : Exa Z h0 a1 "java/lang/String") (F_a1_coder : Fld Z h0 a1 "java/lang/String" "coder" "B" (.int 0)) (V_a3 : Arv Z h0 a3 k_a3 .byte (16 : Int32) [(.int x1), (.int x2), (.int x3), (.int 62), (.int 0), (.int 0), (.int 0), (.int 0), (.int 0), (.int 0), (.int 0), (.int 0), (.int 0), (.int 0), (.int 0), (.int 0)] (.int 0)) (F_a1_value : Fld Z h0 a1 "java/lang/String" "value" "[B" .null) (g_a1 : Z.heap.size ≤ a1) :
    CtrN l Z (⟨"java/lang/String", "<init>", "(Ljava/lang/StringBuilder;)V"⟩ : MethodName) jdk_42_method_53_code 2 none [] (⟨4, 1, 4, 74⟩ : Room) #[(.ref a1), (.ref a2)] h0 [a1] (fun v h => ∃ r1 : Addr, ∃ r2 : ClassId, h0.size ≤ r1 ∧ Fld Z h a1 "java/lang/String" "coder" "B" (.int 0) ∧ Fld Z h a1 "java/lang/String" "value" "[B" (.ref r1) ∧ Arv Z h r1 r2 .byte (4 : Int32) [(.int x1), (.int x2), (.int x3), (.int 62)] (.int 0) ∧ v = none) := by
  refine CtrN.intro (L0 := #[.val (.ref a1), .val (.ref a2)]) (plainFor_of_name pn4) O0 (own_entry rfl) ?_
  intro p e s m below meth c T0 hy hml hret hlk hnm W0
  refine o_aloadN W0 (pc' := 1) (hb hy d33_0) rfl rfl rfl ?_
  refine o_aloadN W0 (pc' := 2) (hb hy d33_1) rfl rfl rfl ?_
  refine o_aconstNull W0 (pc' := 3) (hb hy d33_2) rfl ?_
  refine o_special W0 (y := (⟨"java/lang/String", "<init>", "(Ljava/lang/AbstractStringBuilder;Ljava/lang/Void;)V"⟩ : MethodName)) rfl (w191 hw) (w192 hw) (w193 hw) (by decide) (a := a1) (argsL := [(.ref a2), .null]) (CtrN.back (Wd := 0) W0 (rm58 l Z a0 hw gCS a1 a2 a3 k_a3 x1 x2 x3 h0 W0.old E_a2 F_a2_value F_a2_count SgCS NgCS F_a2_coder E_a1 F_a1_coder g_a1 V_a3 F_a1_value) (w193 hw) (w23 hw) (by decide) (by decide)) (by rw [hml]; rfl) (lenOf pd27 rfl) (S := []) rfl (by exact Nat.le_of_eq rfl) (pc' := 6) (hb hy d33_3) rfl (cells' := 1) (slots' := 4) rfl rfl (by decide) (by decide) (wy := [a1]) (fun _ _ _ q => ⟨q.1, q.2.1⟩) (allS ⟨g_a1, (Or.inl (List.mem_of_getElem? (i := 0) rfl))⟩ all0) (fun _ _ => trivial) ?_
  intro v1 T1 h1 lo1 W1 K1 q1
  obtain ⟨r1_1, r2_1, P1_0, P1_1, P1_2, P1_3, rfl⟩ := q1.2.2
  show Gl _ _ _ _ _ _ _ _ []
  have c2 := (E_a1.keep K1)
  exact o_ret0 W1 hlk hret (hb hy d33_6) (by decide) (by decide) ⟨r1_1, r2_1, (Nat.le_trans W0.keep.1 P1_0), P1_1, P1_2, P1_3, rfl⟩
theorem rm60 (l : Launch) (Z : State) (a0 : Array Value) (hw : ∀ d ∈ tables_1, d.before a0 Z = true) (gCS : Int32) (a1 a2 : Addr) (k_a2 : ClassId) (x1 x2 x3 : Int32) (h0 : Heap) (O0 : Old Z Z.heap.size h0) (E_a1 : Exa Z h0 a1 "java/lang/StringBuilder") (F_a1_value : Fld Z h0 a1 "java/lang/AbstractStringBuilder" "value" "[B" (.ref a2)) (F_a1_count : Fld Z h0 a1 "java/lang/AbstractStringBuilder" "count" "I" (.int 4)) (SgCS : Sta Z Z.heap "java/lang/String" "COMPACT_STRINGS" "Z" (.int gCS)) (NgCS : ¬ (gCS = (0 : Int32))) (F_a1_coder : Fld Z h0 a1 "java/lang/AbstractStringBuilder" "coder" "B" (.int 0)) (V_a2 : Arv Z h0 a2 k_a2 .byte (16 : Int32) [(.int x1), (.int x2), (.int x3), (.int 62), (.int 0), (.int 0), (.int 0), (.int 0), (.int 0), (.int 0), (.int 0), (.int 0), (.int 0), (.int 0), (.int 0), (.int 0)] (.int 0)) :
    CtrN l Z (⟨"java/lang/StringBuilder", "toString", "()Ljava/lang/String;"⟩ : MethodName) jdk_67_method_42_code 1 (some (.object "java/lang/String")) [] (⟨5, 2, 8, 88⟩ : Room) #[(.ref a1)] h0 [] (fun v h => ∃ r1 : Addr, ∃ r2 : Addr, ∃ r3 : ClassId, h0.size ≤ r1 ∧ h0.size ≤ r2 ∧ Exa Z h r1 "java/lang/String" ∧ Fld Z h r1 "java/lang/String" "value" "[B" (.ref r2) ∧ Fld Z h r1 "java/lang/String" "coder" "B" (.int 0) ∧ Arv Z h r2 r3 .byte (4 : Int32) [(.int x1), (.int x2), (.int x3), (.int 62)] (.int 0) ∧ v = some (.ref r1)) := by
  refine CtrN.intro (L0 := #[.val (.ref a1)]) (plainFor_of_name pn1) O0 (own_entry rfl) ?_
  intro p e s m below meth c T0 hy hml hret hlk hnm W0
  refine o_new W0 (w187 hw) (w40 hw) (w23 hw) (fun _ _ => trivial) (pc' := 3) (hb hy d32_0) rfl (cells' := 1) (slots' := 4) rfl rfl (by decide) (by decide) ?_
  intro b1 T1 h1 W1 E1 ge1 gz1 gb1 A1 D1
  have Fb1_value : Fld Z h1 b1 "java/lang/String" "value" "[B" .null := D1 (Or.inr (w50 hw)) (ty := (.array .byte)) (by decide)
  have Fb1_coder : Fld Z h1 b1 "java/lang/String" "coder" "B" (.int 0) := D1 (Or.inr (w52 hw)) (ty := .byte) (by decide)
  refine o_dup W1 (pc' := 4) (hb hy d32_3) rfl rfl ?_
  refine o_aloadN W1 (pc' := 5) (hb hy d32_4) rfl rfl rfl ?_
  have c2 := (E_a1.ext E1)
  have c3 := (F_a1_value.ext E1)
  have c4 := (F_a1_count.ext E1)
  have c5 := (F_a1_coder.ext E1)
  have c6 := (V_a2.ext E1)
  refine o_special W1 (y := (⟨"java/lang/String", "<init>", "(Ljava/lang/StringBuilder;)V"⟩ : MethodName)) rfl (w188 hw) (w189 hw) (w190 hw) (by decide) (a := b1) (argsL := [(.ref a1)]) (CtrN.back (Wd := 1) W1 (rm59 l Z a0 hw gCS b1 a1 a2 k_a2 x1 x2 x3 h1 W1.old c2 c3 c4 SgCS NgCS c5 A1 Fb1_coder c6 Fb1_value gz1) (w190 hw) (w23 hw) (by decide) (by decide)) (by rw [hml]; rfl) (lenOf pd28 rfl) (S := [(.ref b1)]) rfl (by exact Nat.le_of_eq rfl) (pc' := 8) (hb hy d32_5) rfl (cells' := 2) (slots' := 8) rfl rfl (by decide) (by decide) (wy := [b1]) (fun _ _ _ q => ⟨q.1, q.2.1⟩) (allS ⟨gz1, (Or.inr gb1)⟩ all0) (fun _ _ => trivial) ?_
  intro v7 T7 h7 lo7 W7 K7 q7
  obtain ⟨r1_7, r2_7, P7_0, P7_1, P7_2, P7_3, rfl⟩ := q7.2.2
  show Gl _ _ _ _ _ _ _ _ [(.ref b1)]
  have c8 := (A1.keep K7)
  exact o_retA W7 hlk (v := (.ref b1)) hret rfl rfl (hb hy d32_8) (by decide) (by decide) ⟨b1, r1_7, r2_7, gb1, (Nat.le_trans W1.keep.1 P7_0), c8, P7_2, P7_1, P7_3, rfl⟩
theorem rm61 (l : Launch) (Z : State) (a0 : Array Value) (hw : ∀ d ∈ tables_1, d.before a0 Z = true) (gCS : Int32) (a1 a2 a3 : Addr) (k_a3 : ClassId) (x1 x2 x3 : Int32) (h0 : Heap) (O0 : Old Z Z.heap.size h0) (F_a1_out : Fld Z h0 a1 "com/example/colophon/colophon/api/Html" "out" "Ljava/lang/StringBuilder;" (.ref a2)) (E_a2 : Exa Z h0 a2 "java/lang/StringBuilder") (F_a2_value : Fld Z h0 a2 "java/lang/AbstractStringBuilder" "value" "[B" (.ref a3)) (F_a2_count : Fld Z h0 a2 "java/lang/AbstractStringBuilder" "count" "I" (.int 4)) (SgCS : Sta Z Z.heap "java/lang/String" "COMPACT_STRINGS" "Z" (.int gCS)) (NgCS : ¬ (gCS = (0 : Int32))) (F_a2_coder : Fld Z h0 a2 "java/lang/AbstractStringBuilder" "coder" "B" (.int 0)) (V_a3 : Arv Z h0 a3 k_a3 .byte (16 : Int32) [(.int x1), (.int x2), (.int x3), (.int 62), (.int 0), (.int 0), (.int 0), (.int 0), (.int 0), (.int 0), (.int 0), (.int 0), (.int 0), (.int 0), (.int 0), (.int 0)] (.int 0)) :
    CtrN l Z (⟨"com/example/colophon/colophon/api/Html", "toString", "()Ljava/lang/String;"⟩ : MethodName) prog_5_method_8_code 1 (some (.object "java/lang/String")) [] (⟨6, 2, 8, 100⟩ : Room) #[(.ref a1)] h0 [] (fun v h => ∃ r1 : Addr, ∃ r2 : Addr, ∃ r3 : ClassId, h0.size ≤ r1 ∧ h0.size ≤ r2 ∧ Exa Z h r1 "java/lang/String" ∧ Fld Z h r1 "java/lang/String" "value" "[B" (.ref r2) ∧ Fld Z h r1 "java/lang/String" "coder" "B" (.int 0) ∧ Arv Z h r2 r3 .byte (4 : Int32) [(.int x1), (.int x2), (.int x3), (.int 62)] (.int 0) ∧ v = some (.ref r1)) := by
  refine CtrN.intro (L0 := #[.val (.ref a1)]) (plainFor_of_name pn2) O0 (own_entry rfl) ?_
  intro p e s m below meth c T0 hy hml hret hlk hnm W0
  refine o_aloadN W0 (pc' := 1) (hb hy d31_0) rfl rfl rfl ?_
  refine o_getF W0 (w29 hw) Via.refl F_a1_out (pc' := 4) (hb hy d31_1) rfl ?_
  intro T1 W1
  refine o_virtual W1 (y := (⟨"java/lang/StringBuilder", "toString", "()Ljava/lang/String;"⟩ : MethodName)) (z := (⟨"java/lang/StringBuilder", "toString", "()Ljava/lang/String;"⟩ : MethodName)) (w182 hw) (w183 hw) (o_nf W1 rfl (w185 hw)) (w185 hw) (w184 hw) (by decide) E_a2 (argsL := []) (CtrN.back (Wd := 0) W1 (rm60 l Z a0 hw gCS a2 a3 k_a3 x1 x2 x3 h0 W1.old E_a2 F_a2_value F_a2_count SgCS NgCS F_a2_coder V_a3) (w186 hw) (w11 hw) (by decide) (by decide)) (by rw [hml]; rfl) (lenOf pd29 rfl) (S := []) rfl (by exact Nat.le_of_eq rfl) (pc' := 7) (hb hy d31_4) rfl (cells' := 2) (slots' := 8) rfl rfl (by decide) (by decide) (wy := []) (fun _ _ _ q => ⟨q.1, q.2.1⟩) all0 (fun _ _ => trivial) ?_
  intro v2 T2 h2 lo2 W2 K2 q2
  obtain ⟨r1_2, r2_2, r3_2, P2_0, P2_1, P2_2, P2_3, P2_4, P2_5, rfl⟩ := q2.2.2
  show Gl _ _ _ _ _ _ _ _ [(.ref r1_2)]
  exact o_retA W2 hlk (v := (.ref r1_2)) hret rfl rfl (hb hy d31_7) (by decide) (by decide) ⟨r1_2, r2_2, r3_2, (Nat.le_trans W1.keep.1 P2_0), (Nat.le_trans W1.keep.1 P2_1), P2_2, P2_3, P2_4, P2_5, rfl⟩
theorem rm62 (l : Launch) (Z : State) (a0 : Array Value) (hw : ∀ d ∈ tables_1, d.before a0 Z = true) (a1 a2 : Addr) (k_a1 : ClassId) (x1 x2 x3 : Int32) (k_a2 : ClassId) (x4 : Int32) (h0 : Heap) (O0 : Old Z Z.heap.size h0) (V_a1 : Arv Z h0 a1 k_a1 .byte (4 : Int32) [(.int x1), (.int x2), (.int x3), (.int 62)] (.int 0)) (V_a2 : Arv Z h0 a2 k_a2 .byte (4 : Int32) [(.int (StrChars.lo8 (60 : Int32))), (.int (StrChars.lo8 (47 : Int32))), (.int (StrChars.lo8 x4)), (.int (StrChars.lo8 (62 : Int32)))] (.int 0)) (hc1 : x1 = (StrChars.lo8 (60 : Int32))) (hc2 : x2 = (StrChars.lo8 (47 : Int32))) (hc3 : x3 = (StrChars.lo8 x4)) :
    CtrN l Z (⟨"java/lang/StringLatin1", "equals", "([B[B)Z"⟩ : MethodName) jdk_43_method_13_code 3 (some .boolean) [] (⟨0, 0, 0, 0⟩ : Room) #[(.ref a1), (.ref a2)] h0 [] (fun v h => v = some (.int 1)) := by
  refine CtrN.intro (L0 := #[.val (.ref a1), .val (.ref a2), .unset]) (plainFor_of_name pn3) O0 (own_entry rfl) ?_
  intro p e s m below meth c T0 hy hml hret hlk hnm W0
  refine o_aloadN W0 (pc' := 1) (hb hy d46_0) rfl rfl rfl ?_
  refine o_len W0 V_a1 (pc' := 2) (hb hy d46_1) rfl ?_
  refine o_aloadN W0 (pc' := 3) (hb hy d46_2) rfl rfl rfl ?_
  refine o_len W0 V_a2 (pc' := 4) (hb hy d46_3) rfl ?_
  refine o_icmpN W0 (pc' := 7) (hb hy d46_4) (XT.ii_ne_f (by decide)) rfl ?_
  refine o_iconst W0 (v := 0) (pc' := 8) (hb hy d46_7) rfl rfl ?_
  refine o_istoreN W0 (L' := #[.val (.ref a1), .val (.ref a2), .val (.int 0)]) (pc' := 9) (hb hy d46_8) rfl rfl ?_
  refine o_iloadN W0 (pc' := 10) (hb hy d46_9) rfl rfl ?_
  refine o_aloadN W0 (pc' := 11) (hb hy d46_10) rfl rfl rfl ?_
  refine o_len W0 V_a1 (pc' := 12) (hb hy d46_11) rfl ?_
  refine o_icmpN W0 (pc' := 15) (hb hy d46_12) (XT.ii_ge_f (by decide)) rfl ?_
  refine o_aloadN W0 (pc' := 16) (hb hy d46_15) rfl rfl rfl ?_
  refine o_iloadN W0 (pc' := 17) (hb hy d46_16) rfl rfl ?_
  refine o_baload W0 V_a1 (x := x1) (i := 0) (by decide) (by decide) (by decide) rfl (pc' := 18) (hb hy d46_17) rfl ?_
  refine o_aloadN W0 (pc' := 19) (hb hy d46_18) rfl rfl rfl ?_
  refine o_iloadN W0 (pc' := 20) (hb hy d46_19) rfl rfl ?_
  refine o_baload W0 V_a2 (x := (StrChars.lo8 (60 : Int32))) (i := 0) (by decide) (by decide) (by decide) rfl (pc' := 21) (hb hy d46_20) rfl ?_
  refine o_icmpY W0 (pc' := 26) (hb hy d46_21) (XT.ii_eq_t hc1) (by decide) rfl ?_
  refine o_iinc W0 (v := 1) (L' := #[.val (.ref a1), .val (.ref a2), .val (.int 1)]) (pc' := 29) (hb hy d46_26) rfl (by decide) rfl rfl ?_
  refine o_goto W0 (pc' := 9) (hb hy d46_29) (by decide) rfl ?_
  refine o_iloadN W0 (pc' := 10) (hb hy d46_9) rfl rfl ?_
  refine o_aloadN W0 (pc' := 11) (hb hy d46_10) rfl rfl rfl ?_
  refine o_len W0 V_a1 (pc' := 12) (hb hy d46_11) rfl ?_
  refine o_icmpN W0 (pc' := 15) (hb hy d46_12) (XT.ii_ge_f (by decide)) rfl ?_
  refine o_aloadN W0 (pc' := 16) (hb hy d46_15) rfl rfl rfl ?_
  refine o_iloadN W0 (pc' := 17) (hb hy d46_16) rfl rfl ?_
  refine o_baload W0 V_a1 (x := x2) (i := 1) (by decide) (by decide) (by decide) rfl (pc' := 18) (hb hy d46_17) rfl ?_
  refine o_aloadN W0 (pc' := 19) (hb hy d46_18) rfl rfl rfl ?_
  refine o_iloadN W0 (pc' := 20) (hb hy d46_19) rfl rfl ?_
  refine o_baload W0 V_a2 (x := (StrChars.lo8 (47 : Int32))) (i := 1) (by decide) (by decide) (by decide) rfl (pc' := 21) (hb hy d46_20) rfl ?_
  refine o_icmpY W0 (pc' := 26) (hb hy d46_21) (XT.ii_eq_t hc2) (by decide) rfl ?_
  refine o_iinc W0 (v := 2) (L' := #[.val (.ref a1), .val (.ref a2), .val (.int 2)]) (pc' := 29) (hb hy d46_26) rfl (by decide) rfl rfl ?_
  refine o_goto W0 (pc' := 9) (hb hy d46_29) (by decide) rfl ?_
  refine o_iloadN W0 (pc' := 10) (hb hy d46_9) rfl rfl ?_
  refine o_aloadN W0 (pc' := 11) (hb hy d46_10) rfl rfl rfl ?_
  refine o_len W0 V_a1 (pc' := 12) (hb hy d46_11) rfl ?_
  refine o_icmpN W0 (pc' := 15) (hb hy d46_12) (XT.ii_ge_f (by decide)) rfl ?_
  refine o_aloadN W0 (pc' := 16) (hb hy d46_15) rfl rfl rfl ?_
  refine o_iloadN W0 (pc' := 17) (hb hy d46_16) rfl rfl ?_
  refine o_baload W0 V_a1 (x := x3) (i := 2) (by decide) (by decide) (by decide) rfl (pc' := 18) (hb hy d46_17) rfl ?_
  refine o_aloadN W0 (pc' := 19) (hb hy d46_18) rfl rfl rfl ?_
  refine o_iloadN W0 (pc' := 20) (hb hy d46_19) rfl rfl ?_
  refine o_baload W0 V_a2 (x := (StrChars.lo8 x4)) (i := 2) (by decide) (by decide) (by decide) rfl (pc' := 21) (hb hy d46_20) rfl ?_
  refine o_icmpY W0 (pc' := 26) (hb hy d46_21) (XT.ii_eq_t hc3) (by decide) rfl ?_
  refine o_iinc W0 (v := 3) (L' := #[.val (.ref a1), .val (.ref a2), .val (.int 3)]) (pc' := 29) (hb hy d46_26) rfl (by decide) rfl rfl ?_
  refine o_goto W0 (pc' := 9) (hb hy d46_29) (by decide) rfl ?_
  refine o_iloadN W0 (pc' := 10) (hb hy d46_9) rfl rfl ?_
  refine o_aloadN W0 (pc' := 11) (hb hy d46_10) rfl rfl rfl ?_
  refine o_len W0 V_a1 (pc' := 12) (hb hy d46_11) rfl ?_
  refine o_icmpN W0 (pc' := 15) (hb hy d46_12) (XT.ii_ge_f (by decide)) rfl ?_
  refine o_aloadN W0 (pc' := 16) (hb hy d46_15) rfl rfl rfl ?_
  refine o_iloadN W0 (pc' := 17) (hb hy d46_16) rfl rfl ?_
  refine o_baload W0 V_a1 (x := (62 : Int32)) (i := 3) (by decide) (by decide) (by decide) rfl (pc' := 18) (hb hy d46_17) rfl ?_
  refine o_aloadN W0 (pc' := 19) (hb hy d46_18) rfl rfl rfl ?_
  refine o_iloadN W0 (pc' := 20) (hb hy d46_19) rfl rfl ?_
  refine o_baload W0 V_a2 (x := (StrChars.lo8 (62 : Int32))) (i := 3) (by decide) (by decide) (by decide) rfl (pc' := 21) (hb hy d46_20) rfl ?_
  refine o_icmpY W0 (pc' := 26) (hb hy d46_21) (XT.ii_eq_t (by decide)) (by decide) rfl ?_
  refine o_iinc W0 (v := 4) (L' := #[.val (.ref a1), .val (.ref a2), .val (.int 4)]) (pc' := 29) (hb hy d46_26) rfl (by decide) rfl rfl ?_
  refine o_goto W0 (pc' := 9) (hb hy d46_29) (by decide) rfl ?_
  refine o_iloadN W0 (pc' := 10) (hb hy d46_9) rfl rfl ?_
  refine o_aloadN W0 (pc' := 11) (hb hy d46_10) rfl rfl rfl ?_
  refine o_len W0 V_a1 (pc' := 12) (hb hy d46_11) rfl ?_
  refine o_icmpY W0 (pc' := 32) (hb hy d46_12) (XT.ii_ge_t (by decide)) (by decide) rfl ?_
  refine o_iconst W0 (v := 1) (pc' := 33) (hb hy d46_32) rfl rfl ?_
  exact o_retN W0 hlk (t := .boolean) hret (by simp) (z' := (1 : Int32)) (by decide) (hb hy d46_33) (by decide) (by decide) rfl
theorem rm63 (l : Launch) (Z : State) (a0 : Array Value) (hw : ∀ d ∈ tables_1, d.before a0 Z = true) (gCS : Int32) (a1 a2 a3 a4 : Addr) (k_a3 : ClassId) (x1 x2 x3 : Int32) (k_a4 : ClassId) (x4 : Int32) (h0 : Heap) (O0 : Old Z Z.heap.size h0) (E_a1 : Exa Z h0 a1 "java/lang/String") (E_a2 : Exa Z h0 a2 "java/lang/String") (ne_a1_a2 : a1 ≠ a2) (SgCS : Sta Z Z.heap "java/lang/String" "COMPACT_STRINGS" "Z" (.int gCS)) (NgCS : ¬ (gCS = (0 : Int32))) (F_a1_coder : Fld Z h0 a1 "java/lang/String" "coder" "B" (.int 0)) (F_a2_coder : Fld Z h0 a2 "java/lang/String" "coder" "B" (.int 0)) (F_a1_value : Fld Z h0 a1 "java/lang/String" "value" "[B" (.ref a3)) (F_a2_value : Fld Z h0 a2 "java/lang/String" "value" "[B" (.ref a4)) (V_a3 : Arv Z h0 a3 k_a3 .byte (4 : Int32) [(.int x1), (.int x2), (.int x3), (.int 62)] (.int 0)) (V_a4 : Arv Z h0 a4 k_a4 .byte (4 : Int32) [(.int (StrChars.lo8 (60 : Int32))), (.int (StrChars.lo8 (47 : Int32))), (.int (StrChars.lo8 x4)), (.int (StrChars.lo8 (62 : Int32)))] (.int 0)) (hc8 : x1 = (StrChars.lo8 (60 : Int32))) (hc9 : x2 = (StrChars.lo8 (47 : Int32))) (hc10 : x3 = (StrChars.lo8 x4)) :
    CtrN l Z (⟨"java/lang/String", "equals", "(Ljava/lang/Object;)Z"⟩ : MethodName) jdk_42_method_66_code 3 (some .boolean) [] (⟨1, 0, 0, 14⟩ : Room) #[(.ref a1), (.ref a2)] h0 [] (fun v h => v = some (.int 1)) := by
  refine CtrN.intro (L0 := #[.val (.ref a1), .val (.ref a2), .unset]) (plainFor_of_name pn4) O0 (own_entry rfl) ?_
  intro p e s m below meth c T0 hy hml hret hlk hnm W0
  refine o_aloadN W0 (pc' := 1) (hb hy d45_0) rfl rfl rfl ?_
  refine o_aloadN W0 (pc' := 2) (hb hy d45_1) rfl rfl rfl ?_
  refine o_acmpY W0 (pc' := 7) (hb hy d45_2) rfl rfl (XT.aa_ne_t (fun q => ne_a1_a2 (Value.ref.inj q))) (by decide) rfl ?_
  refine o_aloadN W0 (pc' := 8) (hb hy d45_7) rfl rfl rfl ?_
  refine o_instY W0 (w39 hw) (Ins.self E_a2) (pc' := 11) (hb hy d45_8) rfl ?_
  intro T1 W1
  refine o_ifN W1 (pc' := 14) (hb hy d45_11) (XT.i0_eq_f (by decide)) rfl ?_
  refine o_aloadN W1 (pc' := 15) (hb hy d45_14) rfl rfl rfl ?_
  refine o_cast W1 (w39 hw) (Ins.self E_a2) (pc' := 18) (hb hy d45_15) rfl ?_
  intro T2 W2
  refine o_astoreN W2 (L' := #[.val (.ref a1), .val (.ref a2), .val (.ref a2)]) (pc' := 19) (hb hy d45_18) rfl rfl rfl ?_
  refine o_getS W2 (w34 hw) Via.refl (SgCS.ext W2.ox) (pc' := 22) (hb hy d45_19) rfl ?_
  intro T3 W3
  refine o_ifN W3 (pc' := 25) (hb hy d45_22) (XT.i0_eq_f NgCS) rfl ?_
  refine o_aloadN W3 (pc' := 26) (hb hy d45_25) rfl rfl rfl ?_
  refine o_getF W3 (w51 hw) Via.refl F_a1_coder (pc' := 29) (hb hy d45_26) rfl ?_
  intro T4 W4
  refine o_aloadN W4 (pc' := 30) (hb hy d45_29) rfl rfl rfl ?_
  refine o_getF W4 (w51 hw) Via.refl F_a2_coder (pc' := 33) (hb hy d45_30) rfl ?_
  intro T5 W5
  refine o_icmpN W5 (pc' := 36) (hb hy d45_33) (XT.ii_ne_f (by decide)) rfl ?_
  refine o_aloadN W5 (pc' := 37) (hb hy d45_36) rfl rfl rfl ?_
  refine o_getF W5 (w49 hw) Via.refl F_a1_value (pc' := 40) (hb hy d45_37) rfl ?_
  intro T6 W6
  refine o_aloadN W6 (pc' := 41) (hb hy d45_40) rfl rfl rfl ?_
  refine o_getF W6 (w49 hw) Via.refl F_a2_value (pc' := 44) (hb hy d45_41) rfl ?_
  intro T7 W7
  refine o_static W7 (y := (⟨"java/lang/StringLatin1", "equals", "([B[B)Z"⟩ : MethodName)) (w238 hw) (w239 hw) (w37 hw) (w240 hw) (by decide) (argsL := [(.ref a3), (.ref a4)]) (CtrN.back (Wd := 0) W7 (rm62 l Z a0 hw a3 a4 k_a3 x1 x2 x3 k_a4 x4 h0 W7.old V_a3 V_a4 hc8 hc9 hc10) (w240 hw) (w37 hw) (by decide) (by decide)) (by rw [hml]; rfl) (lenOf pd32 rfl) (S := []) rfl (by exact Nat.le_of_eq rfl) (pc' := 47) (hb hy d45_44) rfl (cells' := 0) (slots' := 0) rfl rfl (by decide) (by decide) (wy := []) (fun _ _ _ q => ⟨q.1, q.2.1⟩) all0 (fun _ _ => trivial) ?_
  intro v11 T11 h11 lo11 W11 K11 q11
  obtain rfl := q11.2.2
  show Gl _ _ _ _ _ _ _ _ [(.int 1)]
  refine o_ifN W11 (pc' := 50) (hb hy d45_47) (XT.i0_eq_f (by decide)) rfl ?_
  refine o_iconst W11 (v := 1) (pc' := 51) (hb hy d45_50) rfl rfl ?_
  refine o_goto W11 (pc' := 55) (hb hy d45_51) (by decide) rfl ?_
  exact o_retN W11 hlk (t := .boolean) hret (by simp) (z' := (1 : Int32)) (by decide) (hb hy d45_55) (by decide) (by decide) rfl
theorem rm64 (l : Launch) (Z : State) (a0 : Array Value) (hw : ∀ d ∈ tables_1, d.before a0 Z = true) (a1 a2 : Addr) (k_a2 : ClassId) (h0 : Heap) (O0 : Old Z Z.heap.size h0) (F_a1_value : Fld Z h0 a1 "java/lang/AbstractStringBuilder" "value" "[B" (.ref a2)) (V_a2 : Arv Z h0 a2 k_a2 .byte (16 : Int32) [(.int 0), (.int 0), (.int 0), (.int 0), (.int 0), (.int 0), (.int 0), (.int 0), (.int 0), (.int 0), (.int 0), (.int 0), (.int 0), (.int 0), (.int 0), (.int 0)] (.int 0)) (F_a1_coder : Fld Z h0 a1 "java/lang/AbstractStringBuilder" "coder" "B" (.int 0)) :
    CtrN l Z (⟨"java/lang/AbstractStringBuilder", "ensureCapacityInternal", "(I)V"⟩ : MethodName) jdk_68_method_9_code 3 none [] (⟨0, 0, 0, 0⟩ : Room) #[(.ref a1), (.int 4)] h0 [] (fun v h => v = none) := by
  refine CtrN.intro (L0 := #[.val (.ref a1), .val (.int 4), .unset]) (plainFor_of_name pn0) O0 (own_entry rfl) ?_
  intro p e s m below meth c T0 hy hml hret hlk hnm W0
  refine o_aloadN W0 (pc' := 1) (hb hy d14_0) rfl rfl rfl ?_
  refine o_getF W0 (w25 hw) Via.refl F_a1_value (pc' := 4) (hb hy d14_1) rfl ?_
  intro T1 W1
  refine o_len W1 V_a2 (pc' := 5) (hb hy d14_4) rfl ?_
  refine o_aloadN W1 (pc' := 6) (hb hy d14_5) rfl rfl rfl ?_
  refine o_getF W1 (w27 hw) Via.refl F_a1_coder (pc' := 9) (hb hy d14_6) rfl ?_
  intro T2 W2
  refine o_ishr W2 (v := 16) (pc' := 10) (hb hy d14_9) (by decide) rfl ?_
  refine o_istoreN W2 (L' := #[.val (.ref a1), .val (.int 4), .val (.int 16)]) (pc' := 11) (hb hy d14_10) rfl rfl ?_
  refine o_iloadN W2 (pc' := 12) (hb hy d14_11) rfl rfl ?_
  refine o_iloadN W2 (pc' := 13) (hb hy d14_12) rfl rfl ?_
  refine o_isub W2 (v := (-12 : Int32)) (pc' := 14) (hb hy d14_13) (by decide) rfl ?_
  refine o_ifY W2 (pc' := 38) (hb hy d14_14) (XT.i0_le_t (by decide)) (by decide) rfl ?_
  exact o_ret0 W2 hlk hret (hb hy d14_38) (by decide) (by decide) rfl
theorem rm65 (l : Launch) (Z : State) (a0 : Array Value) (hw : ∀ d ∈ tables_1, d.before a0 Z = true) (a1 a2 a3 : Addr) (k_a3 : ClassId) (x1 x2 x3 : Int32) (k_a2 : ClassId) (h0 : Heap) (O0 : Old Z Z.heap.size h0) (F_a1_coder : Fld Z h0 a1 "java/lang/AbstractStringBuilder" "coder" "B" (.int 0)) (F_a1_value : Fld Z h0 a1 "java/lang/AbstractStringBuilder" "value" "[B" (.ref a3)) (F_a1_count : Fld Z h0 a1 "java/lang/AbstractStringBuilder" "count" "I" (.int 4)) (V_a3 : Arv Z h0 a3 k_a3 .byte (16 : Int32) [(.int x1), (.int x2), (.int x3), (.int 62), (.int 0), (.int 0), (.int 0), (.int 0), (.int 0), (.int 0), (.int 0), (.int 0), (.int 0), (.int 0), (.int 0), (.int 0)] (.int 0)) (V_a2 : Arv Z h0 a2 k_a2 .byte (16 : Int32) [(.int 0), (.int 0), (.int 0), (.int 0), (.int 0), (.int 0), (.int 0), (.int 0), (.int 0), (.int 0), (.int 0), (.int 0), (.int 0), (.int 0), (.int 0), (.int 0)] (.int 0)) (g_a2 : Z.heap.size ≤ a2) :
    CtrN l Z (⟨"java/lang/AbstractStringBuilder", "getBytes", "([BIB)V"⟩ : MethodName) jdk_68_method_65_code 4 none [] (⟨1, 0, 0, 27⟩ : Room) #[(.ref a1), (.ref a2), (.int 0), (.int 0)] h0 [a2] (fun v h => Arv Z h a2 k_a2 .byte (16 : Int32) [(.int x1), (.int x2), (.int x3), (.int 62), (.int 0), (.int 0), (.int 0), (.int 0), (.int 0), (.int 0), (.int 0), (.int 0), (.int 0), (.int 0), (.int 0), (.int 0)] (.int 0) ∧ v = none) := by
  refine CtrN.intro (L0 := #[.val (.ref a1), .val (.ref a2), .val (.int 0), .val (.int 0)]) (plainFor_of_name pn0) O0 (own_entry rfl) ?_
  intro p e s m below meth c T0 hy hml hret hlk hnm W0
  refine o_aloadN W0 (pc' := 1) (hb hy d29_0) rfl rfl rfl ?_
  refine o_getF W0 (w27 hw) Via.refl F_a1_coder (pc' := 4) (hb hy d29_1) rfl ?_
  intro T1 W1
  refine o_iloadN W1 (pc' := 5) (hb hy d29_4) rfl rfl ?_
  refine o_icmpN W1 (pc' := 8) (hb hy d29_5) (XT.ii_ne_f (by decide)) rfl ?_
  refine o_aloadN W1 (pc' := 9) (hb hy d29_8) rfl rfl rfl ?_
  refine o_getF W1 (w25 hw) Via.refl F_a1_value (pc' := 12) (hb hy d29_9) rfl ?_
  intro T2 W2
  refine o_iconst W2 (v := 0) (pc' := 13) (hb hy d29_12) rfl rfl ?_
  refine o_aloadN W2 (pc' := 14) (hb hy d29_13) rfl rfl rfl ?_
  refine o_iloadN W2 (pc' := 15) (hb hy d29_14) rfl rfl ?_
  refine o_iloadN W2 (pc' := 16) (hb hy d29_15) rfl rfl ?_
  refine o_ishl W2 (v := 0) (pc' := 17) (hb hy d29_16) (by decide) rfl ?_
  refine o_aloadN W2 (pc' := 18) (hb hy d29_17) rfl rfl rfl ?_
  refine o_getF W2 (w81 hw) Via.refl F_a1_count (pc' := 21) (hb hy d29_18) rfl ?_
  intro T3 W3
  refine o_iloadN W3 (pc' := 22) (hb hy d29_21) rfl rfl ?_
  refine o_ishl W3 (v := 4) (pc' := 23) (hb hy d29_22) (by decide) rfl ?_
  refine o_copy W3 (w169 hw) (w107 hw) (w105 hw) (w106 hw) V_a3 V_a2 (us := [(.int x1), (.int x2), (.int x3), (.int 62)]) (Or.inl ⟨rfl, rfl⟩) (by decide) (by decide) (by decide) (by decide) (by decide) rfl (Nat.le_of_ble_eq_true rfl) (vd' := [(.int x1), (.int x2), (.int x3), (.int 62), (.int 0), (.int 0), (.int 0), (.int 0), (.int 0), (.int 0), (.int 0), (.int 0), (.int 0), (.int 0), (.int 0), (.int 0)]) rfl g_a2 (Or.inl (List.mem_of_getElem? (i := 0) rfl)) (fun _ _ => trivial) (by rw [hml]; rfl) (pc' := 26) (hb hy d29_23) rfl (by decide) 0 (by exact Nat.le_of_eq rfl) (by decide) ?_
  intro T4 h4 lo4 W4 K4 V4
  refine o_goto W4 (pc' := 43) (hb hy d29_26) (by decide) rfl ?_
  exact o_ret0 W4 hlk hret (hb hy d29_43) (by decide) (by decide) ⟨V4, rfl⟩
theorem rm66 (l : Launch) (Z : State) (a0 : Array Value) (hw : ∀ d ∈ tables_1, d.before a0 Z = true) (gCS : Int32) (a1 a2 a3 : Addr) (k_a3 : ClassId) (a4 : Addr) (k_a4 : ClassId) (x1 x2 x3 : Int32) (h0 : Heap) (O0 : Old Z Z.heap.size h0) (E_a2 : Exa Z h0 a2 "java/lang/StringBuilder") (F_a2_count : Fld Z h0 a2 "java/lang/AbstractStringBuilder" "count" "I" (.int 4)) (F_a1_count : Fld Z h0 a1 "java/lang/AbstractStringBuilder" "count" "I" (.int 0)) (E_a1 : Exa Z h0 a1 "java/lang/StringBuilder") (F_a1_value : Fld Z h0 a1 "java/lang/AbstractStringBuilder" "value" "[B" (.ref a3)) (V_a3 : Arv Z h0 a3 k_a3 .byte (16 : Int32) [(.int 0), (.int 0), (.int 0), (.int 0), (.int 0), (.int 0), (.int 0), (.int 0), (.int 0), (.int 0), (.int 0), (.int 0), (.int 0), (.int 0), (.int 0), (.int 0)] (.int 0)) (F_a1_coder : Fld Z h0 a1 "java/lang/AbstractStringBuilder" "coder" "B" (.int 0)) (SgCS : Sta Z Z.heap "java/lang/String" "COMPACT_STRINGS" "Z" (.int gCS)) (NgCS : ¬ (gCS = (0 : Int32))) (F_a2_coder : Fld Z h0 a2 "java/lang/AbstractStringBuilder" "coder" "B" (.int 0)) (F_a2_value : Fld Z h0 a2 "java/lang/AbstractStringBuilder" "value" "[B" (.ref a4)) (V_a4 : Arv Z h0 a4 k_a4 .byte (16 : Int32) [(.int x1), (.int x2), (.int x3), (.int 62), (.int 0), (.int 0), (.int 0), (.int 0), (.int 0), (.int 0), (.int 0), (.int 0), (.int 0), (.int 0), (.int 0), (.int 0)] (.int 0)) (g_a3 : Z.heap.size ≤ a3) (g_a1 : Z.heap.size ≤ a1) (F_a1_maybeLatin1 : Fld Z h0 a1 "java/lang/AbstractStringBuilder" "maybeLatin1" "Z" (.int 0)) (F_a2_maybeLatin1 : Fld Z h0 a2 "java/lang/AbstractStringBuilder" "maybeLatin1" "Z" (.int 0)) (ne_a1_a2 : a1 ≠ a2) :
    CtrN l Z (⟨"java/lang/AbstractStringBuilder", "append", "(Ljava/lang/AbstractStringBuilder;)Ljava/lang/AbstractStringBuilder;"⟩ : MethodName) jdk_68_method_24_code 3 (some (.object "java/lang/AbstractStringBuilder")) [] (⟨2, 0, 0, 42⟩ : Room) #[(.ref a1), (.ref a2)] h0 [a3, a1] (fun v h => Fld Z h a1 "java/lang/AbstractStringBuilder" "count" "I" (.int 4) ∧ Fld Z h a1 "java/lang/AbstractStringBuilder" "value" "[B" (.ref a3) ∧ Arv Z h a3 k_a3 .byte (16 : Int32) [(.int x1), (.int x2), (.int x3), (.int 62), (.int 0), (.int 0), (.int 0), (.int 0), (.int 0), (.int 0), (.int 0), (.int 0), (.int 0), (.int 0), (.int 0), (.int 0)] (.int 0) ∧ Fld Z h a1 "java/lang/AbstractStringBuilder" "coder" "B" (.int 0) ∧ Fld Z h a1 "java/lang/AbstractStringBuilder" "maybeLatin1" "Z" (.int 0) ∧ v = some (.ref a1)) := by
  refine CtrN.intro (L0 := #[.val (.ref a1), .val (.ref a2), .unset]) (plainFor_of_name pn0) O0 (own_entry rfl) ?_
  intro p e s m below meth c T0 hy hml hret hlk hnm W0
  refine o_aloadN W0 (pc' := 1) (hb hy d24_0) rfl rfl rfl ?_
  refine o_ifnonnullY W0 (pc' := 9) (hb hy d24_1) (by decide) rfl ?_
  refine o_aloadN W0 (pc' := 10) (hb hy d24_9) rfl rfl rfl ?_
  refine o_virtual W0 (y := (⟨"java/lang/AbstractStringBuilder", "length", "()I"⟩ : MethodName)) (z := (⟨"java/lang/StringBuilder", "length", "()I"⟩ : MethodName)) (w146 hw) (w147 hw) (nf_super (args := #[]) (mvT W0.2.2.2.1 (w138 hw))) (w149 hw) (w150 hw) (by decide) E_a2 (argsL := []) (CtrN.back (Wd := 0) W0 (rm53 l Z a0 hw a2 h0 W0.old F_a2_count E_a2) (w151 hw) (w11 hw) (by decide) (by decide)) (by rw [hml]; rfl) (lenOf pd2 rfl) (S := []) rfl (by exact Nat.le_of_eq rfl) (pc' := 13) (hb hy d24_10) rfl (cells' := 0) (slots' := 0) rfl rfl (by decide) (by decide) (wy := []) (fun _ _ _ q => ⟨q.1, q.2.1⟩) all0 (fun _ _ => trivial) ?_
  intro v1 T1 h1 lo1 W1 K1 q1
  obtain rfl := q1.2.2
  show Gl _ _ _ _ _ _ _ _ [(.int 4)]
  refine o_istoreN W1 (L' := #[.val (.ref a1), .val (.ref a2), .val (.int 4)]) (pc' := 14) (hb hy d24_13) rfl rfl ?_
  refine o_aloadN W1 (pc' := 15) (hb hy d24_14) rfl rfl rfl ?_
  refine o_aloadN W1 (pc' := 16) (hb hy d24_15) rfl rfl rfl ?_
  have c2 := (F_a1_count.keep K1 nin0)
  refine o_getF W1 (w81 hw) Via.refl c2 (pc' := 19) (hb hy d24_16) rfl ?_
  intro T3 W3
  refine o_iloadN W3 (pc' := 20) (hb hy d24_19) rfl rfl ?_
  refine o_iadd W3 (v := 4) (pc' := 21) (hb hy d24_20) (by decide) rfl ?_
  have c4 := (E_a1.keep K1)
  have c5 := (F_a1_value.keep K1 nin0)
  have c6 := (V_a3.keep K1 nin0)
  have c7 := (F_a1_coder.keep K1 nin0)
  refine o_private W3 (y := (⟨"java/lang/AbstractStringBuilder", "ensureCapacityInternal", "(I)V"⟩ : MethodName)) (w83 hw) (w84 hw) (w86 hw) (w85 hw) (w87 hw) (by decide) c4 (argsL := [(.int 4)]) (CtrN.back (Wd := 0) W3 (rm64 l Z a0 hw a1 a3 k_a3 h1 W3.old c5 c6 c7) (w87 hw) (w19 hw) (by decide) (by decide)) (by rw [hml]; rfl) (lenOf pd0 rfl) (S := []) rfl (by exact Nat.le_of_eq rfl) (pc' := 24) (hb hy d24_21) rfl (cells' := 0) (slots' := 0) rfl rfl (by decide) (by decide) (wy := []) (fun _ _ _ q => ⟨q.1, q.2.1⟩) all0 (fun _ _ => trivial) ?_
  intro v8 T8 h8 lo8 W8 K8 q8
  obtain rfl := q8.2.2
  show Gl _ _ _ _ _ _ _ _ []
  refine o_aloadN W8 (pc' := 25) (hb hy d24_24) rfl rfl rfl ?_
  refine o_aloadN W8 (pc' := 26) (hb hy d24_25) rfl rfl rfl ?_
  have c9 := (c7.keep K8 nin0)
  have c10 := ((F_a2_coder.keep K1 nin0).keep K8 nin0)
  have c11 := ((E_a2.keep K1).keep K8)
  have c12 := (c4.keep K8)
  refine o_private W8 (y := (⟨"java/lang/AbstractStringBuilder", "inflateIfNeededFor", "(Ljava/lang/AbstractStringBuilder;)V"⟩ : MethodName)) (w154 hw) (w155 hw) (w157 hw) (w156 hw) (w158 hw) (by decide) c12 (argsL := [(.ref a2)]) (CtrN.back (Wd := 0) W8 (rm8 l Z a0 hw gCS a1 a2 h8 W8.old SgCS NgCS c9 c11 c10) (w158 hw) (w19 hw) (by decide) (by decide)) (by rw [hml]; rfl) (lenOf pd4 rfl) (S := []) rfl (by exact Nat.le_of_eq rfl) (pc' := 29) (hb hy d24_26) rfl (cells' := 0) (slots' := 0) rfl rfl (by decide) (by decide) (wy := []) (fun _ _ _ q => ⟨q.1, q.2.1⟩) all0 (fun _ _ => trivial) ?_
  intro v13 T13 h13 lo13 W13 K13 q13
  obtain rfl := q13.2.2
  show Gl _ _ _ _ _ _ _ _ []
  refine o_aloadN W13 (pc' := 30) (hb hy d24_29) rfl rfl rfl ?_
  refine o_aloadN W13 (pc' := 31) (hb hy d24_30) rfl rfl rfl ?_
  have c14 := ((c5.keep K8 nin0).keep K13 nin0)
  refine o_getF W13 (w25 hw) Via.refl c14 (pc' := 34) (hb hy d24_31) rfl ?_
  intro T15 W15
  refine o_aloadN W15 (pc' := 35) (hb hy d24_34) rfl rfl rfl ?_
  have c16 := ((c2.keep K8 nin0).keep K13 nin0)
  refine o_getF W15 (w81 hw) Via.refl c16 (pc' := 38) (hb hy d24_35) rfl ?_
  intro T17 W17
  refine o_aloadN W17 (pc' := 39) (hb hy d24_38) rfl rfl rfl ?_
  have c18 := (c9.keep K13 nin0)
  refine o_getF W17 (w27 hw) Via.refl c18 (pc' := 42) (hb hy d24_39) rfl ?_
  intro T19 W19
  have c20 := (c10.keep K13 nin0)
  have c21 := (((F_a2_value.keep K1 nin0).keep K8 nin0).keep K13 nin0)
  have c22 := (((F_a2_count.keep K1 nin0).keep K8 nin0).keep K13 nin0)
  have c23 := (((V_a4.keep K1 nin0).keep K8 nin0).keep K13 nin0)
  have c24 := ((c6.keep K8 nin0).keep K13 nin0)
  have c25 := (c11.keep K13)
  refine o_virtual W19 (y := (⟨"java/lang/AbstractStringBuilder", "getBytes", "([BIB)V"⟩ : MethodName)) (z := (⟨"java/lang/AbstractStringBuilder", "getBytes", "([BIB)V"⟩ : MethodName)) (w164 hw) (w165 hw) (o_nf W19 rfl (w167 hw)) (w167 hw) (w166 hw) (by decide) c25 (argsL := [(.ref a3), (.int 0), (.int 0)]) (CtrN.back (Wd := 0) W19 (rm65 l Z a0 hw a2 a3 a4 k_a4 x1 x2 x3 k_a3 h13 W19.old c20 c21 c22 c23 c24 g_a3) (w168 hw) (w19 hw) (by decide) (by decide)) (by rw [hml]; rfl) (lenOf pd5 rfl) (S := []) rfl (by exact Nat.le_of_eq rfl) (pc' := 45) (hb hy d24_42) rfl (cells' := 0) (slots' := 0) rfl rfl (by decide) (by decide) (wy := [a3]) (fun _ _ _ q => ⟨q.1, q.2.1⟩) (allS ⟨g_a3, (Or.inl (List.mem_of_getElem? (i := 0) rfl))⟩ all0) (fun _ _ => trivial) ?_
  intro v26 T26 h26 lo26 W26 K26 q26
  obtain ⟨P26_0, rfl⟩ := q26.2.2
  show Gl _ _ _ _ _ _ _ _ []
  refine o_aloadN W26 (pc' := 46) (hb hy d24_45) rfl rfl rfl ?_
  refine o_dup W26 (pc' := 47) (hb hy d24_46) rfl rfl ?_
  have c27 := ((c12.keep K13).keep K26)
  have c28 := (c12.keep K13)
  have c29 := (c16.keep K26 (ninS (Exa.neArv c28 c24 (w10 hw)) nin0))
  refine o_getF W26 (w81 hw) Via.refl c29 (pc' := 50) (hb hy d24_47) rfl ?_
  intro T30 W30
  refine o_iloadN W30 (pc' := 51) (hb hy d24_50) rfl rfl ?_
  refine o_iadd W30 (v := 4) (pc' := 52) (hb hy d24_51) (by decide) rfl ?_
  refine o_putF W30 (w81 hw) Via.refl c29 c27 (Or.inl (w82 hw)) (w10 hw) (ty := .int) (v' := (.int 4)) (by decide) rfl rfl g_a1 (Or.inl (List.mem_of_getElem? (i := 1) rfl)) (fun _ _ => trivial) (pc' := 55) (hb hy d24_52) rfl ?_
  intro T31 h31 lo31 W31 R31
  have F31 := c29.same R31
  refine o_aloadN W31 (pc' := 56) (hb hy d24_55) rfl rfl rfl ?_
  refine o_dup W31 (pc' := 57) (hb hy d24_56) rfl rfl ?_
  have c32 := (c27.wr R31)
  have c33 := (((((F_a1_maybeLatin1.keep K1 nin0).keep K8 nin0).keep K13 nin0).keep K26 (ninS (Exa.neArv c28 c24 (w10 hw)) nin0)).other R31 (Or.inr (slot_ne (Or.inl (w171 hw)) (Or.inl (w82 hw)) (by decide) (t := .boolean) (t' := .int) (by decide) (by decide))))
  refine o_getF W31 (w170 hw) Via.refl c33 (pc' := 60) (hb hy d24_57) rfl ?_
  intro T34 W34
  refine o_aloadN W34 (pc' := 61) (hb hy d24_60) rfl rfl rfl ?_
  have c35 := ((c25.keep K26).wr R31)
  have c36 := (((((F_a2_maybeLatin1.keep K1 nin0).keep K8 nin0).keep K13 nin0).keep K26 (ninS (Exa.neArv c25 c24 (w10 hw)) nin0)).other R31 (Or.inl (Ne.symm ne_a1_a2)))
  refine o_getF W34 (w170 hw) Via.refl c36 (pc' := 64) (hb hy d24_61) rfl ?_
  intro T37 W37
  refine o_ior W37 (v := 0) (pc' := 65) (hb hy d24_64) (by decide) rfl ?_
  refine o_putF W37 (w170 hw) Via.refl c33 c32 (Or.inl (w171 hw)) (w10 hw) (ty := .boolean) (v' := (.int 0)) (by decide) rfl (by decide) g_a1 (Or.inl (List.mem_of_getElem? (i := 1) rfl)) (fun _ _ => trivial) (pc' := 68) (hb hy d24_65) rfl ?_
  intro T38 h38 lo38 W38 R38
  have F38 := c33.same R38
  refine o_aloadN W38 (pc' := 69) (hb hy d24_68) rfl rfl rfl ?_
  have c39 := (F31.other R38 (Or.inr (slot_ne (Or.inl (w82 hw)) (Or.inl (w171 hw)) (by decide) (t := .int) (t' := .boolean) (by decide) (by decide))))
  have c40 := (c32.wr R38)
  have c41 := (((c14.keep K26 (ninS (Exa.neArv c28 c24 (w10 hw)) nin0)).other R31 (Or.inr (slot_ne (Or.inl (w26 hw)) (Or.inl (w82 hw)) (by decide) (t := (.array .byte)) (t' := .int) (by decide) (by decide)))).other R38 (Or.inr (slot_ne (Or.inl (w26 hw)) (Or.inl (w171 hw)) (by decide) (t := (.array .byte)) (t' := .boolean) (by decide) (by decide))))
  have c42 := (((c18.keep K26 (ninS (Exa.neArv c28 c24 (w10 hw)) nin0)).other R31 (Or.inr (slot_ne (Or.inl (w28 hw)) (Or.inl (w82 hw)) (by decide) (t := .byte) (t' := .int) (by decide) (by decide)))).other R38 (Or.inr (slot_ne (Or.inl (w28 hw)) (Or.inl (w171 hw)) (by decide) (t := .byte) (t' := .boolean) (by decide) (by decide))))
  have c43 := (P26_0.other R31 (Ne.symm (Exa.neArv c27 P26_0 (w10 hw))))
  have c44 := ((P26_0.other R31 (Ne.symm (Exa.neArv c27 P26_0 (w10 hw)))).other R38 (Ne.symm (Exa.neArv c32 c43 (w10 hw))))
  exact o_retA W38 hlk (v := (.ref a1)) hret rfl rfl (hb hy d24_69) (by decide) (by decide) ⟨c39, c41, c44, c42, F38, rfl⟩
theorem rm67 (l : Launch) (Z : State) (a0 : Array Value) (hw : ∀ d ∈ tables_1, d.before a0 Z = true) (gCS : Int32) (a1 a2 a3 : Addr) (k_a3 : ClassId) (a4 : Addr) (k_a4 : ClassId) (x1 x2 x3 : Int32) (h0 : Heap) (O0 : Old Z Z.heap.size h0) (E_a2 : Exa Z h0 a2 "java/lang/StringBuilder") (E_a1 : Exa Z h0 a1 "java/lang/StringBuilder") (F_a2_count : Fld Z h0 a2 "java/lang/AbstractStringBuilder" "count" "I" (.int 4)) (F_a1_count : Fld Z h0 a1 "java/lang/AbstractStringBuilder" "count" "I" (.int 0)) (F_a1_value : Fld Z h0 a1 "java/lang/AbstractStringBuilder" "value" "[B" (.ref a3)) (V_a3 : Arv Z h0 a3 k_a3 .byte (16 : Int32) [(.int 0), (.int 0), (.int 0), (.int 0), (.int 0), (.int 0), (.int 0), (.int 0), (.int 0), (.int 0), (.int 0), (.int 0), (.int 0), (.int 0), (.int 0), (.int 0)] (.int 0)) (F_a1_coder : Fld Z h0 a1 "java/lang/AbstractStringBuilder" "coder" "B" (.int 0)) (SgCS : Sta Z Z.heap "java/lang/String" "COMPACT_STRINGS" "Z" (.int gCS)) (NgCS : ¬ (gCS = (0 : Int32))) (F_a2_coder : Fld Z h0 a2 "java/lang/AbstractStringBuilder" "coder" "B" (.int 0)) (F_a2_value : Fld Z h0 a2 "java/lang/AbstractStringBuilder" "value" "[B" (.ref a4)) (V_a4 : Arv Z h0 a4 k_a4 .byte (16 : Int32) [(.int x1), (.int x2), (.int x3), (.int 62), (.int 0), (.int 0), (.int 0), (.int 0), (.int 0), (.int 0), (.int 0), (.int 0), (.int 0), (.int 0), (.int 0), (.int 0)] (.int 0)) (F_a1_maybeLatin1 : Fld Z h0 a1 "java/lang/AbstractStringBuilder" "maybeLatin1" "Z" (.int 0)) (F_a2_maybeLatin1 : Fld Z h0 a2 "java/lang/AbstractStringBuilder" "maybeLatin1" "Z" (.int 0)) (g_a3 : Z.heap.size ≤ a3) (g_a1 : Z.heap.size ≤ a1) (ne_a1_a2 : a1 ≠ a2) :
    CtrN l Z (⟨"java/lang/AbstractStringBuilder", "append", "(Ljava/lang/CharSequence;)Ljava/lang/AbstractStringBuilder;"⟩ : MethodName) jdk_68_method_25_code 2 (some (.object "java/lang/AbstractStringBuilder")) [] (⟨3, 0, 0, 56⟩ : Room) #[(.ref a1), (.ref a2)] h0 [a1, a3] (fun v h => Fld Z h a1 "java/lang/AbstractStringBuilder" "count" "I" (.int 4) ∧ Fld Z h a1 "java/lang/AbstractStringBuilder" "value" "[B" (.ref a3) ∧ Arv Z h a3 k_a3 .byte (16 : Int32) [(.int x1), (.int x2), (.int x3), (.int 62), (.int 0), (.int 0), (.int 0), (.int 0), (.int 0), (.int 0), (.int 0), (.int 0), (.int 0), (.int 0), (.int 0), (.int 0)] (.int 0) ∧ Fld Z h a1 "java/lang/AbstractStringBuilder" "coder" "B" (.int 0) ∧ Fld Z h a1 "java/lang/AbstractStringBuilder" "maybeLatin1" "Z" (.int 0) ∧ v = some (.ref a1)) := by
  refine CtrN.intro (L0 := #[.val (.ref a1), .val (.ref a2)]) (plainFor_of_name pn0) O0 (own_entry rfl) ?_
  intro p e s m below meth c T0 hy hml hret hlk hnm W0
  refine o_aloadN W0 (pc' := 1) (hb hy d23_0) rfl rfl rfl ?_
  refine o_ifnonnullY W0 (pc' := 9) (hb hy d23_1) (by decide) rfl ?_
  refine o_aloadN W0 (pc' := 10) (hb hy d23_9) rfl rfl rfl ?_
  refine o_instN W0 (w137 hw) E_a2 (own_NSno (w68 hw) (w40 hw) (NS.step (w68 hw) (NS.step (w138 hw) (own_NSr (w139 hw) (w40 hw) (by decide)) (by decide)) (by decide)) (by decide)) (pc' := 13) (hb hy d23_10) rfl ?_
  intro T1 W1
  refine o_ifY W1 (pc' := 25) (hb hy d23_13) (XT.i0_eq_t (by decide)) (by decide) rfl ?_
  refine o_aloadN W1 (pc' := 26) (hb hy d23_25) rfl rfl rfl ?_
  refine o_instY W1 (w140 hw) (Ins.of_exa E_a2 (w18 hw)) (pc' := 29) (hb hy d23_26) rfl ?_
  intro T2 W2
  refine o_ifN W2 (pc' := 32) (hb hy d23_29) (XT.i0_eq_f (by decide)) rfl ?_
  refine o_aloadN W2 (pc' := 33) (hb hy d23_32) rfl rfl rfl ?_
  refine o_aloadN W2 (pc' := 34) (hb hy d23_33) rfl rfl rfl ?_
  refine o_cast W2 (w140 hw) (Ins.of_exa E_a2 (w18 hw)) (pc' := 37) (hb hy d23_34) rfl ?_
  intro T3 W3
  refine o_virtual W3 (y := (⟨"java/lang/AbstractStringBuilder", "append", "(Ljava/lang/AbstractStringBuilder;)Ljava/lang/AbstractStringBuilder;"⟩ : MethodName)) (z := (⟨"java/lang/AbstractStringBuilder", "append", "(Ljava/lang/AbstractStringBuilder;)Ljava/lang/AbstractStringBuilder;"⟩ : MethodName)) (w141 hw) (w142 hw) (o_nf W3 rfl (w144 hw)) (w144 hw) (w143 hw) (by decide) E_a1 (argsL := [(.ref a2)]) (CtrN.back (Wd := 0) W3 (rm66 l Z a0 hw gCS a1 a2 a3 k_a3 a4 k_a4 x1 x2 x3 h0 W3.old E_a2 F_a2_count F_a1_count E_a1 F_a1_value V_a3 F_a1_coder SgCS NgCS F_a2_coder F_a2_value V_a4 g_a3 g_a1 F_a1_maybeLatin1 F_a2_maybeLatin1 ne_a1_a2) (w145 hw) (w19 hw) (by decide) (by decide)) (by rw [hml]; rfl) (lenOf pd6 rfl) (S := []) rfl (by exact Nat.le_of_eq rfl) (pc' := 40) (hb hy d23_37) rfl (cells' := 0) (slots' := 0) rfl rfl (by decide) (by decide) (wy := [a3, a1]) (fun _ _ _ q => ⟨q.1, q.2.1⟩) (allS ⟨g_a3, (Or.inl (List.mem_of_getElem? (i := 1) rfl))⟩ (allS ⟨g_a1, (Or.inl (List.mem_of_getElem? (i := 0) rfl))⟩ all0)) (fun _ _ => trivial) ?_
  intro v4 T4 h4 lo4 W4 K4 q4
  obtain ⟨P4_0, P4_1, P4_2, P4_3, P4_4, rfl⟩ := q4.2.2
  show Gl _ _ _ _ _ _ _ _ [(.ref a1)]
  have c5 := (E_a1.keep K4)
  exact o_retA W4 hlk (v := (.ref a1)) hret rfl rfl (hb hy d23_40) (by decide) (by decide) ⟨P4_0, P4_1, P4_2, P4_3, P4_4, rfl⟩
theorem rm68 (l : Launch) (Z : State) (a0 : Array Value) (hw : ∀ d ∈ tables_1, d.before a0 Z = true) (gCS : Int32) (a1 a2 a3 : Addr) (k_a3 : ClassId) (a4 : Addr) (k_a4 : ClassId) (x1 x2 x3 : Int32) (h0 : Heap) (O0 : Old Z Z.heap.size h0) (E_a2 : Exa Z h0 a2 "java/lang/StringBuilder") (E_a1 : Exa Z h0 a1 "java/lang/StringBuilder") (F_a2_count : Fld Z h0 a2 "java/lang/AbstractStringBuilder" "count" "I" (.int 4)) (F_a1_count : Fld Z h0 a1 "java/lang/AbstractStringBuilder" "count" "I" (.int 0)) (F_a1_value : Fld Z h0 a1 "java/lang/AbstractStringBuilder" "value" "[B" (.ref a3)) (V_a3 : Arv Z h0 a3 k_a3 .byte (16 : Int32) [(.int 0), (.int 0), (.int 0), (.int 0), (.int 0), (.int 0), (.int 0), (.int 0), (.int 0), (.int 0), (.int 0), (.int 0), (.int 0), (.int 0), (.int 0), (.int 0)] (.int 0)) (F_a1_coder : Fld Z h0 a1 "java/lang/AbstractStringBuilder" "coder" "B" (.int 0)) (SgCS : Sta Z Z.heap "java/lang/String" "COMPACT_STRINGS" "Z" (.int gCS)) (NgCS : ¬ (gCS = (0 : Int32))) (F_a2_coder : Fld Z h0 a2 "java/lang/AbstractStringBuilder" "coder" "B" (.int 0)) (F_a2_value : Fld Z h0 a2 "java/lang/AbstractStringBuilder" "value" "[B" (.ref a4)) (V_a4 : Arv Z h0 a4 k_a4 .byte (16 : Int32) [(.int x1), (.int x2), (.int x3), (.int 62), (.int 0), (.int 0), (.int 0), (.int 0), (.int 0), (.int 0), (.int 0), (.int 0), (.int 0), (.int 0), (.int 0), (.int 0)] (.int 0)) (F_a1_maybeLatin1 : Fld Z h0 a1 "java/lang/AbstractStringBuilder" "maybeLatin1" "Z" (.int 0)) (F_a2_maybeLatin1 : Fld Z h0 a2 "java/lang/AbstractStringBuilder" "maybeLatin1" "Z" (.int 0)) (g_a3 : Z.heap.size ≤ a3) (g_a1 : Z.heap.size ≤ a1) (ne_a1_a2 : a1 ≠ a2) :
    CtrN l Z (⟨"java/lang/StringBuilder", "append", "(Ljava/lang/CharSequence;)Ljava/lang/StringBuilder;"⟩ : MethodName) jdk_67_method_9_code 2 (some (.object "java/lang/StringBuilder")) [] (⟨4, 0, 0, 69⟩ : Room) #[(.ref a1), (.ref a2)] h0 [a3, a1] (fun v h => Fld Z h a1 "java/lang/AbstractStringBuilder" "count" "I" (.int 4) ∧ Fld Z h a1 "java/lang/AbstractStringBuilder" "value" "[B" (.ref a3) ∧ Arv Z h a3 k_a3 .byte (16 : Int32) [(.int x1), (.int x2), (.int x3), (.int 62), (.int 0), (.int 0), (.int 0), (.int 0), (.int 0), (.int 0), (.int 0), (.int 0), (.int 0), (.int 0), (.int 0), (.int 0)] (.int 0) ∧ Fld Z h a1 "java/lang/AbstractStringBuilder" "coder" "B" (.int 0) ∧ Fld Z h a1 "java/lang/AbstractStringBuilder" "maybeLatin1" "Z" (.int 0) ∧ v = some (.ref a1)) := by
  refine CtrN.intro (L0 := #[.val (.ref a1), .val (.ref a2)]) (plainFor_of_name pn1) O0 (own_entry rfl) ?_
  intro p e s m below meth c T0 hy hml hret hlk hnm W0
  refine o_aloadN W0 (pc' := 1) (hb hy d22_0) rfl rfl rfl ?_
  refine o_aloadN W0 (pc' := 2) (hb hy d22_1) rfl rfl rfl ?_
  refine o_super W0 (y := (⟨"java/lang/AbstractStringBuilder", "append", "(Ljava/lang/CharSequence;)Ljava/lang/AbstractStringBuilder;"⟩ : MethodName)) (by decide) (w133 hw) (w134 hw) (own_sameM (y := (⟨"java/lang/AbstractStringBuilder", "append", "(Ljava/lang/CharSequence;)Ljava/lang/AbstractStringBuilder;"⟩ : MethodName)) (by decide) (w134 hw) (w138 hw)) (w68 hw) (w136 hw) (Ins.self E_a1) (argsL := [(.ref a2)]) (CtrN.back (Wd := 0) W0 (rm67 l Z a0 hw gCS a1 a2 a3 k_a3 a4 k_a4 x1 x2 x3 h0 W0.old E_a2 E_a1 F_a2_count F_a1_count F_a1_value V_a3 F_a1_coder SgCS NgCS F_a2_coder F_a2_value V_a4 F_a1_maybeLatin1 F_a2_maybeLatin1 g_a3 g_a1 ne_a1_a2) (w136 hw) (w19 hw) (by decide) (by decide)) (by rw [hml]; rfl) (lenOf pd7 rfl) (S := []) rfl (by exact Nat.le_of_eq rfl) (pc' := 5) (hb hy d22_2) rfl (cells' := 0) (slots' := 0) rfl rfl (by decide) (by decide) (wy := [a1, a3]) (fun _ _ _ q => ⟨q.1, q.2.1⟩) (allS ⟨g_a1, (Or.inl (List.mem_of_getElem? (i := 1) rfl))⟩ (allS ⟨g_a3, (Or.inl (List.mem_of_getElem? (i := 0) rfl))⟩ all0)) (fun _ _ => trivial) ?_
  intro v1 T1 h1 lo1 W1 K1 q1
  obtain ⟨P1_0, P1_1, P1_2, P1_3, P1_4, rfl⟩ := q1.2.2
  show Gl _ _ _ _ _ _ _ _ [(.ref a1)]
  refine o_pop W1 (pc' := 6) (hb hy d22_5) rfl rfl ?_
  refine o_aloadN W1 (pc' := 7) (hb hy d22_6) rfl rfl rfl ?_
  have c2 := (E_a1.keep K1)
  exact o_retA W1 hlk (v := (.ref a1)) hret rfl rfl (hb hy d22_7) (by decide) (by decide) ⟨P1_0, P1_1, P1_2, P1_3, P1_4, rfl⟩
theorem rm69 (l : Launch) (Z : State) (a0 : Array Value) (hw : ∀ d ∈ tables_1, d.before a0 Z = true) (gCS : Int32) (a1 a2 a3 a4 a5 : Addr) (k_a5 : ClassId) (a6 : Addr) (k_a6 : ClassId) (x1 x2 x3 : Int32) (h0 : Heap) (O0 : Old Z Z.heap.size h0) (F_a1_out : Fld Z h0 a1 "com/example/colophon/colophon/api/Html" "out" "Ljava/lang/StringBuilder;" (.ref a3)) (F_a2_out : Fld Z h0 a2 "com/example/colophon/colophon/api/Html" "out" "Ljava/lang/StringBuilder;" (.ref a4)) (E_a3 : Exa Z h0 a3 "java/lang/StringBuilder") (E_a4 : Exa Z h0 a4 "java/lang/StringBuilder") (F_a4_count : Fld Z h0 a4 "java/lang/AbstractStringBuilder" "count" "I" (.int 4)) (F_a3_count : Fld Z h0 a3 "java/lang/AbstractStringBuilder" "count" "I" (.int 0)) (F_a3_value : Fld Z h0 a3 "java/lang/AbstractStringBuilder" "value" "[B" (.ref a5)) (V_a5 : Arv Z h0 a5 k_a5 .byte (16 : Int32) [(.int 0), (.int 0), (.int 0), (.int 0), (.int 0), (.int 0), (.int 0), (.int 0), (.int 0), (.int 0), (.int 0), (.int 0), (.int 0), (.int 0), (.int 0), (.int 0)] (.int 0)) (F_a3_coder : Fld Z h0 a3 "java/lang/AbstractStringBuilder" "coder" "B" (.int 0)) (SgCS : Sta Z Z.heap "java/lang/String" "COMPACT_STRINGS" "Z" (.int gCS)) (NgCS : ¬ (gCS = (0 : Int32))) (F_a4_coder : Fld Z h0 a4 "java/lang/AbstractStringBuilder" "coder" "B" (.int 0)) (F_a4_value : Fld Z h0 a4 "java/lang/AbstractStringBuilder" "value" "[B" (.ref a6)) (V_a6 : Arv Z h0 a6 k_a6 .byte (16 : Int32) [(.int x1), (.int x2), (.int x3), (.int 62), (.int 0), (.int 0), (.int 0), (.int 0), (.int 0), (.int 0), (.int 0), (.int 0), (.int 0), (.int 0), (.int 0), (.int 0)] (.int 0)) (F_a3_maybeLatin1 : Fld Z h0 a3 "java/lang/AbstractStringBuilder" "maybeLatin1" "Z" (.int 0)) (F_a4_maybeLatin1 : Fld Z h0 a4 "java/lang/AbstractStringBuilder" "maybeLatin1" "Z" (.int 0)) (g_a5 : Z.heap.size ≤ a5) (g_a3 : Z.heap.size ≤ a3) (ne_a3_a4 : a3 ≠ a4) :
    CtrN l Z (⟨"com/example/colophon/colophon/api/Html", "append", "(Lcom/example/colophon/colophon/api/Html;)Lcom/example/colophon/colophon/api/Html;"⟩ : MethodName) prog_5_method_7_code 2 (some (.object "com/example/colophon/colophon/api/Html")) [] (⟨5, 0, 0, 82⟩ : Room) #[(.ref a1), (.ref a2)] h0 [a3, a5] (fun v h => Fld Z h a3 "java/lang/AbstractStringBuilder" "count" "I" (.int 4) ∧ Fld Z h a3 "java/lang/AbstractStringBuilder" "value" "[B" (.ref a5) ∧ Arv Z h a5 k_a5 .byte (16 : Int32) [(.int x1), (.int x2), (.int x3), (.int 62), (.int 0), (.int 0), (.int 0), (.int 0), (.int 0), (.int 0), (.int 0), (.int 0), (.int 0), (.int 0), (.int 0), (.int 0)] (.int 0) ∧ Fld Z h a3 "java/lang/AbstractStringBuilder" "coder" "B" (.int 0) ∧ Fld Z h a3 "java/lang/AbstractStringBuilder" "maybeLatin1" "Z" (.int 0) ∧ v = some (.ref a1)) := by
  refine CtrN.intro (L0 := #[.val (.ref a1), .val (.ref a2)]) (plainFor_of_name pn2) O0 (own_entry rfl) ?_
  intro p e s m below meth c T0 hy hml hret hlk hnm W0
  refine o_aloadN W0 (pc' := 1) (hb hy d21_0) rfl rfl rfl ?_
  refine o_getF W0 (w29 hw) Via.refl F_a1_out (pc' := 4) (hb hy d21_1) rfl ?_
  intro T1 W1
  refine o_aloadN W1 (pc' := 5) (hb hy d21_4) rfl rfl rfl ?_
  refine o_getF W1 (w29 hw) Via.refl F_a2_out (pc' := 8) (hb hy d21_5) rfl ?_
  intro T2 W2
  refine o_virtual W2 (y := (⟨"java/lang/StringBuilder", "append", "(Ljava/lang/CharSequence;)Ljava/lang/StringBuilder;"⟩ : MethodName)) (z := (⟨"java/lang/StringBuilder", "append", "(Ljava/lang/CharSequence;)Ljava/lang/StringBuilder;"⟩ : MethodName)) (w128 hw) (w129 hw) (o_nf W2 rfl (w131 hw)) (w131 hw) (w130 hw) (by decide) E_a3 (argsL := [(.ref a4)]) (CtrN.back (Wd := 0) W2 (rm68 l Z a0 hw gCS a3 a4 a5 k_a5 a6 k_a6 x1 x2 x3 h0 W2.old E_a4 E_a3 F_a4_count F_a3_count F_a3_value V_a5 F_a3_coder SgCS NgCS F_a4_coder F_a4_value V_a6 F_a3_maybeLatin1 F_a4_maybeLatin1 g_a5 g_a3 ne_a3_a4) (w132 hw) (w11 hw) (by decide) (by decide)) (by rw [hml]; rfl) (lenOf pd8 rfl) (S := []) rfl (by exact Nat.le_of_eq rfl) (pc' := 11) (hb hy d21_8) rfl (cells' := 0) (slots' := 0) rfl rfl (by decide) (by decide) (wy := [a5, a3]) (fun _ _ _ q => ⟨q.1, q.2.1⟩) (allS ⟨g_a5, (Or.inl (List.mem_of_getElem? (i := 1) rfl))⟩ (allS ⟨g_a3, (Or.inl (List.mem_of_getElem? (i := 0) rfl))⟩ all0)) (fun _ _ => trivial) ?_
  intro v3 T3 h3 lo3 W3 K3 q3
  obtain ⟨P3_0, P3_1, P3_2, P3_3, P3_4, rfl⟩ := q3.2.2
  show Gl _ _ _ _ _ _ _ _ [(.ref a3)]
  refine o_pop W3 (pc' := 12) (hb hy d21_11) rfl rfl ?_
  refine o_aloadN W3 (pc' := 13) (hb hy d21_12) rfl rfl rfl ?_
  have c4 := (E_a3.keep K3)
  exact o_retA W3 hlk (v := (.ref a1)) hret rfl rfl (hb hy d21_13) (by decide) (by decide) ⟨P3_0, P3_1, P3_2, P3_3, P3_4, rfl⟩
theorem rm70 (l : Launch) (Z : State) (a0 : Array Value) (hw : ∀ d ∈ tables_1, d.before a0 Z = true) (a1 a2 : Addr) (k_a2 : ClassId) (x1 x2 x3 : Int32) (h0 : Heap) (O0 : Old Z Z.heap.size h0) (F_a1_value : Fld Z h0 a1 "java/lang/AbstractStringBuilder" "value" "[B" (.ref a2)) (V_a2 : Arv Z h0 a2 k_a2 .byte (16 : Int32) [(.int x1), (.int x2), (.int x3), (.int 62), (.int 0), (.int 0), (.int 0), (.int 0), (.int 0), (.int 0), (.int 0), (.int 0), (.int 0), (.int 0), (.int 0), (.int 0)] (.int 0)) (F_a1_coder : Fld Z h0 a1 "java/lang/AbstractStringBuilder" "coder" "B" (.int 0)) :
    CtrN l Z (⟨"java/lang/AbstractStringBuilder", "ensureCapacityInternal", "(I)V"⟩ : MethodName) jdk_68_method_9_code 3 none [] (⟨0, 0, 0, 0⟩ : Room) #[(.ref a1), (.int 6)] h0 [] (fun v h => v = none) := by
  refine CtrN.intro (L0 := #[.val (.ref a1), .val (.int 6), .unset]) (plainFor_of_name pn0) O0 (own_entry rfl) ?_
  intro p e s m below meth c T0 hy hml hret hlk hnm W0
  refine o_aloadN W0 (pc' := 1) (hb hy d14_0) rfl rfl rfl ?_
  refine o_getF W0 (w25 hw) Via.refl F_a1_value (pc' := 4) (hb hy d14_1) rfl ?_
  intro T1 W1
  refine o_len W1 V_a2 (pc' := 5) (hb hy d14_4) rfl ?_
  refine o_aloadN W1 (pc' := 6) (hb hy d14_5) rfl rfl rfl ?_
  refine o_getF W1 (w27 hw) Via.refl F_a1_coder (pc' := 9) (hb hy d14_6) rfl ?_
  intro T2 W2
  refine o_ishr W2 (v := 16) (pc' := 10) (hb hy d14_9) (by decide) rfl ?_
  refine o_istoreN W2 (L' := #[.val (.ref a1), .val (.int 6), .val (.int 16)]) (pc' := 11) (hb hy d14_10) rfl rfl ?_
  refine o_iloadN W2 (pc' := 12) (hb hy d14_11) rfl rfl ?_
  refine o_iloadN W2 (pc' := 13) (hb hy d14_12) rfl rfl ?_
  refine o_isub W2 (v := (-10 : Int32)) (pc' := 14) (hb hy d14_13) (by decide) rfl ?_
  refine o_ifY W2 (pc' := 38) (hb hy d14_14) (XT.i0_le_t (by decide)) (by decide) rfl ?_
  exact o_ret0 W2 hlk hret (hb hy d14_38) (by decide) (by decide) rfl
theorem rm71 (l : Launch) (Z : State) (a0 : Array Value) (hw : ∀ d ∈ tables_1, d.before a0 Z = true) (gCS : Int32) (a1 a2 a3 : Addr) (k_a3 k_a2 : ClassId) (x1 x2 x3 : Int32) (h0 : Heap) (O0 : Old Z Z.heap.size h0) (E_a1 : Exa Z h0 a1 "java/lang/String") (SgCS : Sta Z Z.heap "java/lang/String" "COMPACT_STRINGS" "Z" (.int gCS)) (NgCS : ¬ (gCS = (0 : Int32))) (F_a1_coder : Fld Z h0 a1 "java/lang/String" "coder" "B" (.int 0)) (F_a1_value : Fld Z h0 a1 "java/lang/String" "value" "[B" (.ref a3)) (V_a3 : Arv Z h0 a3 k_a3 .byte (2 : Int32) [(.int (StrChars.lo8 (60 : Int32))), (.int (StrChars.lo8 (47 : Int32)))] (.int 0)) (V_a2 : Arv Z h0 a2 k_a2 .byte (16 : Int32) [(.int x1), (.int x2), (.int x3), (.int 62), (.int 0), (.int 0), (.int 0), (.int 0), (.int 0), (.int 0), (.int 0), (.int 0), (.int 0), (.int 0), (.int 0), (.int 0)] (.int 0)) (g_a2 : Z.heap.size ≤ a2) :
    CtrN l Z (⟨"java/lang/String", "getBytes", "([BIB)V"⟩ : MethodName) jdk_42_method_147_code 4 none [] (⟨1, 0, 0, 27⟩ : Room) #[(.ref a1), (.ref a2), (.int 4), (.int 0)] h0 [a2] (fun v h => Arv Z h a2 k_a2 .byte (16 : Int32) [(.int x1), (.int x2), (.int x3), (.int 62), (.int (StrChars.lo8 (60 : Int32))), (.int (StrChars.lo8 (47 : Int32))), (.int 0), (.int 0), (.int 0), (.int 0), (.int 0), (.int 0), (.int 0), (.int 0), (.int 0), (.int 0)] (.int 0) ∧ v = none) := by
  refine CtrN.intro (L0 := #[.val (.ref a1), .val (.ref a2), .val (.int 4), .val (.int 0)]) (plainFor_of_name pn4) O0 (own_entry rfl) ?_
  intro p e s m below meth c T0 hy hml hret hlk hnm W0
  refine o_aloadN W0 (pc' := 1) (hb hy d17_0) rfl rfl rfl ?_
  refine o_virtual W0 (y := (⟨"java/lang/String", "coder", "()B"⟩ : MethodName)) (z := (⟨"java/lang/String", "coder", "()B"⟩ : MethodName)) (w76 hw) (w77 hw) (o_nf W0 rfl (w79 hw)) (w79 hw) (w78 hw) (by decide) E_a1 (argsL := []) (CtrN.back (Wd := 0) W0 (rm18 l Z a0 hw gCS a1 h0 W0.old SgCS NgCS F_a1_coder) (w80 hw) (w23 hw) (by decide) (by decide)) (by rw [hml]; rfl) (lenOf pd3 rfl) (S := []) rfl (by exact Nat.le_of_eq rfl) (pc' := 4) (hb hy d17_1) rfl (cells' := 0) (slots' := 0) rfl rfl (by decide) (by decide) (wy := []) (fun _ _ _ q => ⟨q.1, q.2.1⟩) all0 (fun _ _ => trivial) ?_
  intro v1 T1 h1 lo1 W1 K1 q1
  obtain rfl := q1.2.2
  show Gl _ _ _ _ _ _ _ _ [(.int 0)]
  refine o_iloadN W1 (pc' := 5) (hb hy d17_4) rfl rfl ?_
  refine o_icmpN W1 (pc' := 8) (hb hy d17_5) (XT.ii_ne_f (by decide)) rfl ?_
  refine o_aloadN W1 (pc' := 9) (hb hy d17_8) rfl rfl rfl ?_
  have c2 := (F_a1_value.keep K1 nin0)
  refine o_getF W1 (w49 hw) Via.refl c2 (pc' := 12) (hb hy d17_9) rfl ?_
  intro T3 W3
  refine o_iconst W3 (v := 0) (pc' := 13) (hb hy d17_12) rfl rfl ?_
  refine o_aloadN W3 (pc' := 14) (hb hy d17_13) rfl rfl rfl ?_
  refine o_iloadN W3 (pc' := 15) (hb hy d17_14) rfl rfl ?_
  refine o_iloadN W3 (pc' := 16) (hb hy d17_15) rfl rfl ?_
  refine o_ishl W3 (v := 4) (pc' := 17) (hb hy d17_16) (by decide) rfl ?_
  refine o_aloadN W3 (pc' := 18) (hb hy d17_17) rfl rfl rfl ?_
  refine o_getF W3 (w49 hw) Via.refl c2 (pc' := 21) (hb hy d17_18) rfl ?_
  intro T4 W4
  have c5 := (V_a3.keep K1 nin0)
  refine o_len W4 c5 (pc' := 22) (hb hy d17_21) rfl ?_
  have c6 := (V_a2.keep K1 nin0)
  refine o_copy W4 (w104 hw) (w107 hw) (w105 hw) (w106 hw) c5 c6 (us := [(.int (StrChars.lo8 (60 : Int32))), (.int (StrChars.lo8 (47 : Int32)))]) (Or.inl ⟨rfl, rfl⟩) (by decide) (by decide) (by decide) (by decide) (by decide) rfl (Nat.le_of_ble_eq_true rfl) (vd' := [(.int x1), (.int x2), (.int x3), (.int 62), (.int (StrChars.lo8 (60 : Int32))), (.int (StrChars.lo8 (47 : Int32))), (.int 0), (.int 0), (.int 0), (.int 0), (.int 0), (.int 0), (.int 0), (.int 0), (.int 0), (.int 0)]) rfl g_a2 (Or.inl (List.mem_of_getElem? (i := 0) rfl)) (fun _ _ => trivial) (by rw [hml]; rfl) (pc' := 25) (hb hy d17_22) rfl (by decide) 0 (by exact Nat.le_of_eq rfl) (by decide) ?_
  intro T7 h7 lo7 W7 K7 V7
  refine o_goto W7 (pc' := 43) (hb hy d17_25) (by decide) rfl ?_
  exact o_ret0 W7 hlk hret (hb hy d17_43) (by decide) (by decide) ⟨V7, rfl⟩
theorem rm72 (l : Launch) (Z : State) (a0 : Array Value) (hw : ∀ d ∈ tables_1, d.before a0 Z = true) (gCS : Int32) (a1 a2 a3 a4 : Addr) (k_a4 k_a3 : ClassId) (x1 x2 x3 : Int32) (h0 : Heap) (O0 : Old Z Z.heap.size h0) (E_a1 : Exa Z h0 a1 "java/lang/StringBuilder") (SgCS : Sta Z Z.heap "java/lang/String" "COMPACT_STRINGS" "Z" (.int gCS)) (NgCS : ¬ (gCS = (0 : Int32))) (F_a1_coder : Fld Z h0 a1 "java/lang/AbstractStringBuilder" "coder" "B" (.int 0)) (E_a2 : Exa Z h0 a2 "java/lang/String") (F_a2_coder : Fld Z h0 a2 "java/lang/String" "coder" "B" (.int 0)) (F_a1_value : Fld Z h0 a1 "java/lang/AbstractStringBuilder" "value" "[B" (.ref a3)) (F_a2_value : Fld Z h0 a2 "java/lang/String" "value" "[B" (.ref a4)) (V_a4 : Arv Z h0 a4 k_a4 .byte (2 : Int32) [(.int (StrChars.lo8 (60 : Int32))), (.int (StrChars.lo8 (47 : Int32)))] (.int 0)) (V_a3 : Arv Z h0 a3 k_a3 .byte (16 : Int32) [(.int x1), (.int x2), (.int x3), (.int 62), (.int 0), (.int 0), (.int 0), (.int 0), (.int 0), (.int 0), (.int 0), (.int 0), (.int 0), (.int 0), (.int 0), (.int 0)] (.int 0)) (g_a3 : Z.heap.size ≤ a3) :
    CtrN l Z (⟨"java/lang/AbstractStringBuilder", "putStringAt", "(ILjava/lang/String;)V"⟩ : MethodName) jdk_68_method_73_code 3 none [] (⟨2, 0, 0, 42⟩ : Room) #[(.ref a1), (.int 4), (.ref a2)] h0 [a3] (fun v h => Arv Z h a3 k_a3 .byte (16 : Int32) [(.int x1), (.int x2), (.int x3), (.int 62), (.int (StrChars.lo8 (60 : Int32))), (.int (StrChars.lo8 (47 : Int32))), (.int 0), (.int 0), (.int 0), (.int 0), (.int 0), (.int 0), (.int 0), (.int 0), (.int 0), (.int 0)] (.int 0) ∧ v = none) := by
  refine CtrN.intro (L0 := #[.val (.ref a1), .val (.int 4), .val (.ref a2)]) (plainFor_of_name pn0) O0 (own_entry rfl) ?_
  intro p e s m below meth c T0 hy hml hret hlk hnm W0
  refine o_aloadN W0 (pc' := 1) (hb hy d15_0) rfl rfl rfl ?_
  refine o_aloadN W0 (pc' := 2) (hb hy d15_1) rfl rfl rfl ?_
  refine o_private W0 (y := (⟨"java/lang/AbstractStringBuilder", "inflateIfNeededFor", "(Ljava/lang/String;)V"⟩ : MethodName)) (w93 hw) (w94 hw) (w96 hw) (w95 hw) (w97 hw) (by decide) E_a1 (argsL := [(.ref a2)]) (CtrN.back (Wd := 0) W0 (rm21 l Z a0 hw gCS a1 a2 h0 W0.old SgCS NgCS F_a1_coder E_a2 F_a2_coder) (w97 hw) (w19 hw) (by decide) (by decide)) (by rw [hml]; rfl) (lenOf pd14 rfl) (S := []) rfl (by exact Nat.le_of_eq rfl) (pc' := 5) (hb hy d15_2) rfl (cells' := 0) (slots' := 0) rfl rfl (by decide) (by decide) (wy := []) (fun _ _ _ q => ⟨q.1, q.2.1⟩) all0 (fun _ _ => trivial) ?_
  intro v1 T1 h1 lo1 W1 K1 q1
  obtain rfl := q1.2.2
  show Gl _ _ _ _ _ _ _ _ []
  refine o_aloadN W1 (pc' := 6) (hb hy d15_5) rfl rfl rfl ?_
  refine o_aloadN W1 (pc' := 7) (hb hy d15_6) rfl rfl rfl ?_
  have c2 := (F_a1_value.keep K1 nin0)
  refine o_getF W1 (w25 hw) Via.refl c2 (pc' := 10) (hb hy d15_7) rfl ?_
  intro T3 W3
  refine o_iloadN W3 (pc' := 11) (hb hy d15_10) rfl rfl ?_
  refine o_aloadN W3 (pc' := 12) (hb hy d15_11) rfl rfl rfl ?_
  have c4 := (F_a1_coder.keep K1 nin0)
  refine o_getF W3 (w27 hw) Via.refl c4 (pc' := 15) (hb hy d15_12) rfl ?_
  intro T5 W5
  have c6 := (F_a2_coder.keep K1 nin0)
  have c7 := (F_a2_value.keep K1 nin0)
  have c8 := (V_a4.keep K1 nin0)
  have c9 := (V_a3.keep K1 nin0)
  have c10 := (E_a2.keep K1)
  refine o_virtual W5 (y := (⟨"java/lang/String", "getBytes", "([BIB)V"⟩ : MethodName)) (z := (⟨"java/lang/String", "getBytes", "([BIB)V"⟩ : MethodName)) (w99 hw) (w100 hw) (o_nf W5 rfl (w102 hw)) (w102 hw) (w101 hw) (by decide) c10 (argsL := [(.ref a3), (.int 4), (.int 0)]) (CtrN.back (Wd := 0) W5 (rm71 l Z a0 hw gCS a2 a3 a4 k_a4 k_a3 x1 x2 x3 h1 W5.old c10 SgCS NgCS c6 c7 c8 c9 g_a3) (w103 hw) (w23 hw) (by decide) (by decide)) (by rw [hml]; rfl) (lenOf pd5 rfl) (S := []) rfl (by exact Nat.le_of_eq rfl) (pc' := 18) (hb hy d15_15) rfl (cells' := 0) (slots' := 0) rfl rfl (by decide) (by decide) (wy := [a3]) (fun _ _ _ q => ⟨q.1, q.2.1⟩) (allS ⟨g_a3, (Or.inl (List.mem_of_getElem? (i := 0) rfl))⟩ all0) (fun _ _ => trivial) ?_
  intro v11 T11 h11 lo11 W11 K11 q11
  obtain ⟨P11_0, rfl⟩ := q11.2.2
  show Gl _ _ _ _ _ _ _ _ []
  exact o_ret0 W11 hlk hret (hb hy d15_18) (by decide) (by decide) ⟨P11_0, rfl⟩
theorem rm73 (l : Launch) (Z : State) (a0 : Array Value) (hw : ∀ d ∈ tables_1, d.before a0 Z = true) (gCS : Int32) (a1 a2 a3 : Addr) (k_a3 : ClassId) (a4 : Addr) (k_a4 : ClassId) (x1 x2 x3 : Int32) (h0 : Heap) (O0 : Old Z Z.heap.size h0) (E_a2 : Exa Z h0 a2 "java/lang/String") (F_a2_value : Fld Z h0 a2 "java/lang/String" "value" "[B" (.ref a3)) (V_a3 : Arv Z h0 a3 k_a3 .byte (2 : Int32) [(.int (StrChars.lo8 (60 : Int32))), (.int (StrChars.lo8 (47 : Int32)))] (.int 0)) (SgCS : Sta Z Z.heap "java/lang/String" "COMPACT_STRINGS" "Z" (.int gCS)) (NgCS : ¬ (gCS = (0 : Int32))) (F_a2_coder : Fld Z h0 a2 "java/lang/String" "coder" "B" (.int 0)) (F_a1_count : Fld Z h0 a1 "java/lang/AbstractStringBuilder" "count" "I" (.int 4)) (E_a1 : Exa Z h0 a1 "java/lang/StringBuilder") (F_a1_value : Fld Z h0 a1 "java/lang/AbstractStringBuilder" "value" "[B" (.ref a4)) (V_a4 : Arv Z h0 a4 k_a4 .byte (16 : Int32) [(.int x1), (.int x2), (.int x3), (.int 62), (.int 0), (.int 0), (.int 0), (.int 0), (.int 0), (.int 0), (.int 0), (.int 0), (.int 0), (.int 0), (.int 0), (.int 0)] (.int 0)) (F_a1_coder : Fld Z h0 a1 "java/lang/AbstractStringBuilder" "coder" "B" (.int 0)) (g_a4 : Z.heap.size ≤ a4) (g_a1 : Z.heap.size ≤ a1) (F_a1_maybeLatin1 : Fld Z h0 a1 "java/lang/AbstractStringBuilder" "maybeLatin1" "Z" (.int 0)) :
    CtrN l Z (⟨"java/lang/AbstractStringBuilder", "append", "(Ljava/lang/String;)Ljava/lang/AbstractStringBuilder;"⟩ : MethodName) jdk_68_method_22_code 3 (some (.object "java/lang/AbstractStringBuilder")) [] (⟨3, 0, 0, 56⟩ : Room) #[(.ref a1), (.ref a2)] h0 [a4, a1] (fun v h => Fld Z h a1 "java/lang/AbstractStringBuilder" "count" "I" (.int 6) ∧ Fld Z h a1 "java/lang/AbstractStringBuilder" "value" "[B" (.ref a4) ∧ Arv Z h a4 k_a4 .byte (16 : Int32) [(.int x1), (.int x2), (.int x3), (.int 62), (.int (StrChars.lo8 (60 : Int32))), (.int (StrChars.lo8 (47 : Int32))), (.int 0), (.int 0), (.int 0), (.int 0), (.int 0), (.int 0), (.int 0), (.int 0), (.int 0), (.int 0)] (.int 0) ∧ Fld Z h a1 "java/lang/AbstractStringBuilder" "coder" "B" (.int 0) ∧ Fld Z h a1 "java/lang/AbstractStringBuilder" "maybeLatin1" "Z" (.int 0) ∧ v = some (.ref a1)) := by
  refine CtrN.intro (L0 := #[.val (.ref a1), .val (.ref a2), .unset]) (plainFor_of_name pn0) O0 (own_entry rfl) ?_
  intro p e s m below meth c T0 hy hml hret hlk hnm W0
  refine o_aloadN W0 (pc' := 1) (hb hy d11_0) rfl rfl rfl ?_
  refine o_ifnonnullY W0 (pc' := 9) (hb hy d11_1) (by decide) rfl ?_
  refine o_aloadN W0 (pc' := 10) (hb hy d11_9) rfl rfl rfl ?_
  refine o_virtual W0 (y := (⟨"java/lang/String", "length", "()I"⟩ : MethodName)) (z := (⟨"java/lang/String", "length", "()I"⟩ : MethodName)) (w71 hw) (w72 hw) (o_nf W0 rfl (w74 hw)) (w74 hw) (w73 hw) (by decide) E_a2 (argsL := []) (CtrN.back (Wd := 0) W0 (rm19 l Z a0 hw gCS a2 a3 k_a3 h0 W0.old F_a2_value V_a3 E_a2 SgCS NgCS F_a2_coder) (w75 hw) (w23 hw) (by decide) (by decide)) (by rw [hml]; rfl) (lenOf pd2 rfl) (S := []) rfl (by exact Nat.le_of_eq rfl) (pc' := 13) (hb hy d11_10) rfl (cells' := 0) (slots' := 0) rfl rfl (by decide) (by decide) (wy := []) (fun _ _ _ q => ⟨q.1, q.2.1⟩) all0 (fun _ _ => trivial) ?_
  intro v1 T1 h1 lo1 W1 K1 q1
  obtain rfl := q1.2.2
  show Gl _ _ _ _ _ _ _ _ [(.int 2)]
  refine o_istoreN W1 (L' := #[.val (.ref a1), .val (.ref a2), .val (.int 2)]) (pc' := 14) (hb hy d11_13) rfl rfl ?_
  refine o_aloadN W1 (pc' := 15) (hb hy d11_14) rfl rfl rfl ?_
  refine o_aloadN W1 (pc' := 16) (hb hy d11_15) rfl rfl rfl ?_
  have c2 := (F_a1_count.keep K1 nin0)
  refine o_getF W1 (w81 hw) Via.refl c2 (pc' := 19) (hb hy d11_16) rfl ?_
  intro T3 W3
  refine o_iloadN W3 (pc' := 20) (hb hy d11_19) rfl rfl ?_
  refine o_iadd W3 (v := 6) (pc' := 21) (hb hy d11_20) (by decide) rfl ?_
  have c4 := (E_a1.keep K1)
  have c5 := (F_a1_value.keep K1 nin0)
  have c6 := (V_a4.keep K1 nin0)
  have c7 := (F_a1_coder.keep K1 nin0)
  refine o_private W3 (y := (⟨"java/lang/AbstractStringBuilder", "ensureCapacityInternal", "(I)V"⟩ : MethodName)) (w83 hw) (w84 hw) (w86 hw) (w85 hw) (w87 hw) (by decide) c4 (argsL := [(.int 6)]) (CtrN.back (Wd := 0) W3 (rm70 l Z a0 hw a1 a4 k_a4 x1 x2 x3 h1 W3.old c5 c6 c7) (w87 hw) (w19 hw) (by decide) (by decide)) (by rw [hml]; rfl) (lenOf pd0 rfl) (S := []) rfl (by exact Nat.le_of_eq rfl) (pc' := 24) (hb hy d11_21) rfl (cells' := 0) (slots' := 0) rfl rfl (by decide) (by decide) (wy := []) (fun _ _ _ q => ⟨q.1, q.2.1⟩) all0 (fun _ _ => trivial) ?_
  intro v8 T8 h8 lo8 W8 K8 q8
  obtain rfl := q8.2.2
  show Gl _ _ _ _ _ _ _ _ []
  refine o_aloadN W8 (pc' := 25) (hb hy d11_24) rfl rfl rfl ?_
  refine o_aloadN W8 (pc' := 26) (hb hy d11_25) rfl rfl rfl ?_
  have c9 := (c2.keep K8 nin0)
  refine o_getF W8 (w81 hw) Via.refl c9 (pc' := 29) (hb hy d11_26) rfl ?_
  intro T10 W10
  refine o_aloadN W10 (pc' := 30) (hb hy d11_29) rfl rfl rfl ?_
  have c11 := (c7.keep K8 nin0)
  have c12 := ((F_a2_coder.keep K1 nin0).keep K8 nin0)
  have c13 := (c5.keep K8 nin0)
  have c14 := ((F_a2_value.keep K1 nin0).keep K8 nin0)
  have c15 := ((V_a3.keep K1 nin0).keep K8 nin0)
  have c16 := (c6.keep K8 nin0)
  have c17 := (c4.keep K8)
  have c18 := ((E_a2.keep K1).keep K8)
  refine o_private W10 (y := (⟨"java/lang/AbstractStringBuilder", "putStringAt", "(ILjava/lang/String;)V"⟩ : MethodName)) (w88 hw) (w89 hw) (w91 hw) (w90 hw) (w92 hw) (by decide) c17 (argsL := [(.int 4), (.ref a2)]) (CtrN.back (Wd := 0) W10 (rm72 l Z a0 hw gCS a1 a2 a4 a3 k_a3 k_a4 x1 x2 x3 h8 W10.old c17 SgCS NgCS c11 c18 c12 c13 c14 c15 c16 g_a4) (w92 hw) (w19 hw) (by decide) (by decide)) (by rw [hml]; rfl) (lenOf pd15 rfl) (S := []) rfl (by exact Nat.le_of_eq rfl) (pc' := 33) (hb hy d11_30) rfl (cells' := 0) (slots' := 0) rfl rfl (by decide) (by decide) (wy := [a4]) (fun _ _ _ q => ⟨q.1, q.2.1⟩) (allS ⟨g_a4, (Or.inl (List.mem_of_getElem? (i := 0) rfl))⟩ all0) (fun _ _ => trivial) ?_
  intro v19 T19 h19 lo19 W19 K19 q19
  obtain ⟨P19_0, rfl⟩ := q19.2.2
  show Gl _ _ _ _ _ _ _ _ []
  refine o_aloadN W19 (pc' := 34) (hb hy d11_33) rfl rfl rfl ?_
  refine o_dup W19 (pc' := 35) (hb hy d11_34) rfl rfl ?_
  have c20 := (c17.keep K19)
  have c21 := (c9.keep K19 (ninS (Exa.neArv c17 c16 (w10 hw)) nin0))
  refine o_getF W19 (w81 hw) Via.refl c21 (pc' := 38) (hb hy d11_35) rfl ?_
  intro T22 W22
  refine o_iloadN W22 (pc' := 39) (hb hy d11_38) rfl rfl ?_
  refine o_iadd W22 (v := 6) (pc' := 40) (hb hy d11_39) (by decide) rfl ?_
  refine o_putF W22 (w81 hw) Via.refl c21 c20 (Or.inl (w82 hw)) (w10 hw) (ty := .int) (v' := (.int 6)) (by decide) rfl rfl g_a1 (Or.inl (List.mem_of_getElem? (i := 1) rfl)) (fun _ _ => trivial) (pc' := 43) (hb hy d11_40) rfl ?_
  intro T23 h23 lo23 W23 R23
  have F23 := c21.same R23
  refine o_aloadN W23 (pc' := 44) (hb hy d11_43) rfl rfl rfl ?_
  have c24 := (c20.wr R23)
  have c25 := ((c13.keep K19 (ninS (Exa.neArv c17 c16 (w10 hw)) nin0)).other R23 (Or.inr (slot_ne (Or.inl (w26 hw)) (Or.inl (w82 hw)) (by decide) (t := (.array .byte)) (t' := .int) (by decide) (by decide))))
  have c26 := ((c11.keep K19 (ninS (Exa.neArv c17 c16 (w10 hw)) nin0)).other R23 (Or.inr (slot_ne (Or.inl (w28 hw)) (Or.inl (w82 hw)) (by decide) (t := .byte) (t' := .int) (by decide) (by decide))))
  have c27 := ((((F_a1_maybeLatin1.keep K1 nin0).keep K8 nin0).keep K19 (ninS (Exa.neArv c17 c16 (w10 hw)) nin0)).other R23 (Or.inr (slot_ne (Or.inl (w171 hw)) (Or.inl (w82 hw)) (by decide) (t := .boolean) (t' := .int) (by decide) (by decide))))
  have c28 := (P19_0.other R23 (Ne.symm (Exa.neArv c20 P19_0 (w10 hw))))
  exact o_retA W23 hlk (v := (.ref a1)) hret rfl rfl (hb hy d11_44) (by decide) (by decide) ⟨F23, c25, c28, c26, c27, rfl⟩
theorem rm74 (l : Launch) (Z : State) (a0 : Array Value) (hw : ∀ d ∈ tables_1, d.before a0 Z = true) (gCS : Int32) (a1 a2 a3 : Addr) (k_a3 : ClassId) (a4 : Addr) (k_a4 : ClassId) (x1 x2 x3 : Int32) (h0 : Heap) (O0 : Old Z Z.heap.size h0) (E_a2 : Exa Z h0 a2 "java/lang/String") (F_a2_value : Fld Z h0 a2 "java/lang/String" "value" "[B" (.ref a3)) (V_a3 : Arv Z h0 a3 k_a3 .byte (2 : Int32) [(.int (StrChars.lo8 (60 : Int32))), (.int (StrChars.lo8 (47 : Int32)))] (.int 0)) (SgCS : Sta Z Z.heap "java/lang/String" "COMPACT_STRINGS" "Z" (.int gCS)) (NgCS : ¬ (gCS = (0 : Int32))) (F_a2_coder : Fld Z h0 a2 "java/lang/String" "coder" "B" (.int 0)) (F_a1_count : Fld Z h0 a1 "java/lang/AbstractStringBuilder" "count" "I" (.int 4)) (E_a1 : Exa Z h0 a1 "java/lang/StringBuilder") (F_a1_value : Fld Z h0 a1 "java/lang/AbstractStringBuilder" "value" "[B" (.ref a4)) (V_a4 : Arv Z h0 a4 k_a4 .byte (16 : Int32) [(.int x1), (.int x2), (.int x3), (.int 62), (.int 0), (.int 0), (.int 0), (.int 0), (.int 0), (.int 0), (.int 0), (.int 0), (.int 0), (.int 0), (.int 0), (.int 0)] (.int 0)) (F_a1_coder : Fld Z h0 a1 "java/lang/AbstractStringBuilder" "coder" "B" (.int 0)) (F_a1_maybeLatin1 : Fld Z h0 a1 "java/lang/AbstractStringBuilder" "maybeLatin1" "Z" (.int 0)) (g_a4 : Z.heap.size ≤ a4) (g_a1 : Z.heap.size ≤ a1) :
    CtrN l Z (⟨"java/lang/StringBuilder", "append", "(Ljava/lang/String;)Ljava/lang/StringBuilder;"⟩ : MethodName) jdk_67_method_7_code 2 (some (.object "java/lang/StringBuilder")) [] (⟨4, 0, 0, 70⟩ : Room) #[(.ref a1), (.ref a2)] h0 [a1, a4] (fun v h => Fld Z h a1 "java/lang/AbstractStringBuilder" "count" "I" (.int 6) ∧ Fld Z h a1 "java/lang/AbstractStringBuilder" "value" "[B" (.ref a4) ∧ Arv Z h a4 k_a4 .byte (16 : Int32) [(.int x1), (.int x2), (.int x3), (.int 62), (.int (StrChars.lo8 (60 : Int32))), (.int (StrChars.lo8 (47 : Int32))), (.int 0), (.int 0), (.int 0), (.int 0), (.int 0), (.int 0), (.int 0), (.int 0), (.int 0), (.int 0)] (.int 0) ∧ Fld Z h a1 "java/lang/AbstractStringBuilder" "coder" "B" (.int 0) ∧ Fld Z h a1 "java/lang/AbstractStringBuilder" "maybeLatin1" "Z" (.int 0) ∧ v = some (.ref a1)) := by
  refine CtrN.intro (L0 := #[.val (.ref a1), .val (.ref a2)]) (plainFor_of_name pn1) O0 (own_entry rfl) ?_
  intro p e s m below meth c T0 hy hml hret hlk hnm W0
  refine o_aloadN W0 (pc' := 1) (hb hy d10_0) rfl rfl rfl ?_
  refine o_aloadN W0 (pc' := 2) (hb hy d10_1) rfl rfl rfl ?_
  refine o_super W0 (y := (⟨"java/lang/AbstractStringBuilder", "append", "(Ljava/lang/String;)Ljava/lang/AbstractStringBuilder;"⟩ : MethodName)) (by decide) (w66 hw) (w67 hw) (own_sameM (y := (⟨"java/lang/AbstractStringBuilder", "append", "(Ljava/lang/String;)Ljava/lang/AbstractStringBuilder;"⟩ : MethodName)) (by decide) (w67 hw) (w138 hw)) (w68 hw) (w70 hw) (Ins.self E_a1) (argsL := [(.ref a2)]) (CtrN.back (Wd := 0) W0 (rm73 l Z a0 hw gCS a1 a2 a3 k_a3 a4 k_a4 x1 x2 x3 h0 W0.old E_a2 F_a2_value V_a3 SgCS NgCS F_a2_coder F_a1_count E_a1 F_a1_value V_a4 F_a1_coder g_a4 g_a1 F_a1_maybeLatin1) (w70 hw) (w19 hw) (by decide) (by decide)) (by rw [hml]; rfl) (lenOf pd16 rfl) (S := []) rfl (by exact Nat.le_of_eq rfl) (pc' := 5) (hb hy d10_2) rfl (cells' := 0) (slots' := 0) rfl rfl (by decide) (by decide) (wy := [a4, a1]) (fun _ _ _ q => ⟨q.1, q.2.1⟩) (allS ⟨g_a4, (Or.inl (List.mem_of_getElem? (i := 1) rfl))⟩ (allS ⟨g_a1, (Or.inl (List.mem_of_getElem? (i := 0) rfl))⟩ all0)) (fun _ _ => trivial) ?_
  intro v1 T1 h1 lo1 W1 K1 q1
  obtain ⟨P1_0, P1_1, P1_2, P1_3, P1_4, rfl⟩ := q1.2.2
  show Gl _ _ _ _ _ _ _ _ [(.ref a1)]
  refine o_pop W1 (pc' := 6) (hb hy d10_5) rfl rfl ?_
  refine o_aloadN W1 (pc' := 7) (hb hy d10_6) rfl rfl rfl ?_
  have c2 := (E_a1.keep K1)
  exact o_retA W1 hlk (v := (.ref a1)) hret rfl rfl (hb hy d10_7) (by decide) (by decide) ⟨P1_0, P1_1, P1_2, P1_3, P1_4, rfl⟩
theorem rm75 (l : Launch) (Z : State) (a0 : Array Value) (hw : ∀ d ∈ tables_1, d.before a0 Z = true) (a1 a2 : Addr) (k_a2 : ClassId) (x1 x2 x3 x4 x5 : Int32) (h0 : Heap) (O0 : Old Z Z.heap.size h0) (F_a1_value : Fld Z h0 a1 "java/lang/AbstractStringBuilder" "value" "[B" (.ref a2)) (V_a2 : Arv Z h0 a2 k_a2 .byte (16 : Int32) [(.int x1), (.int x2), (.int x3), (.int 62), (.int x4), (.int x5), (.int 0), (.int 0), (.int 0), (.int 0), (.int 0), (.int 0), (.int 0), (.int 0), (.int 0), (.int 0)] (.int 0)) (F_a1_coder : Fld Z h0 a1 "java/lang/AbstractStringBuilder" "coder" "B" (.int 0)) :
    CtrN l Z (⟨"java/lang/AbstractStringBuilder", "ensureCapacityInternal", "(I)V"⟩ : MethodName) jdk_68_method_9_code 3 none [] (⟨0, 0, 0, 0⟩ : Room) #[(.ref a1), (.int 7)] h0 [] (fun v h => v = none) := by
  refine CtrN.intro (L0 := #[.val (.ref a1), .val (.int 7), .unset]) (plainFor_of_name pn0) O0 (own_entry rfl) ?_
  intro p e s m below meth c T0 hy hml hret hlk hnm W0
  refine o_aloadN W0 (pc' := 1) (hb hy d14_0) rfl rfl rfl ?_
  refine o_getF W0 (w25 hw) Via.refl F_a1_value (pc' := 4) (hb hy d14_1) rfl ?_
  intro T1 W1
  refine o_len W1 V_a2 (pc' := 5) (hb hy d14_4) rfl ?_
  refine o_aloadN W1 (pc' := 6) (hb hy d14_5) rfl rfl rfl ?_
  refine o_getF W1 (w27 hw) Via.refl F_a1_coder (pc' := 9) (hb hy d14_6) rfl ?_
  intro T2 W2
  refine o_ishr W2 (v := 16) (pc' := 10) (hb hy d14_9) (by decide) rfl ?_
  refine o_istoreN W2 (L' := #[.val (.ref a1), .val (.int 7), .val (.int 16)]) (pc' := 11) (hb hy d14_10) rfl rfl ?_
  refine o_iloadN W2 (pc' := 12) (hb hy d14_11) rfl rfl ?_
  refine o_iloadN W2 (pc' := 13) (hb hy d14_12) rfl rfl ?_
  refine o_isub W2 (v := (-9 : Int32)) (pc' := 14) (hb hy d14_13) (by decide) rfl ?_
  refine o_ifY W2 (pc' := 38) (hb hy d14_14) (XT.i0_le_t (by decide)) (by decide) rfl ?_
  exact o_ret0 W2 hlk hret (hb hy d14_38) (by decide) (by decide) rfl
theorem rm76 (l : Launch) (Z : State) (a0 : Array Value) (hw : ∀ d ∈ tables_1, d.before a0 Z = true) (gCS : Int32) (a1 a2 a3 : Addr) (k_a3 : ClassId) (x1 : Int32) (k_a2 : ClassId) (x2 x3 x4 x5 x6 : Int32) (h0 : Heap) (O0 : Old Z Z.heap.size h0) (E_a1 : Exa Z h0 a1 "java/lang/String") (SgCS : Sta Z Z.heap "java/lang/String" "COMPACT_STRINGS" "Z" (.int gCS)) (NgCS : ¬ (gCS = (0 : Int32))) (F_a1_coder : Fld Z h0 a1 "java/lang/String" "coder" "B" (.int 0)) (F_a1_value : Fld Z h0 a1 "java/lang/String" "value" "[B" (.ref a3)) (V_a3 : Arv Z h0 a3 k_a3 .byte (1 : Int32) [(.int (StrChars.lo8 x1))] (.int 0)) (V_a2 : Arv Z h0 a2 k_a2 .byte (16 : Int32) [(.int x2), (.int x3), (.int x4), (.int 62), (.int x5), (.int x6), (.int 0), (.int 0), (.int 0), (.int 0), (.int 0), (.int 0), (.int 0), (.int 0), (.int 0), (.int 0)] (.int 0)) (g_a2 : Z.heap.size ≤ a2) :
    CtrN l Z (⟨"java/lang/String", "getBytes", "([BIB)V"⟩ : MethodName) jdk_42_method_147_code 4 none [] (⟨1, 0, 0, 27⟩ : Room) #[(.ref a1), (.ref a2), (.int 6), (.int 0)] h0 [a2] (fun v h => Arv Z h a2 k_a2 .byte (16 : Int32) [(.int x2), (.int x3), (.int x4), (.int 62), (.int x5), (.int x6), (.int (StrChars.lo8 x1)), (.int 0), (.int 0), (.int 0), (.int 0), (.int 0), (.int 0), (.int 0), (.int 0), (.int 0)] (.int 0) ∧ v = none) := by
  refine CtrN.intro (L0 := #[.val (.ref a1), .val (.ref a2), .val (.int 6), .val (.int 0)]) (plainFor_of_name pn4) O0 (own_entry rfl) ?_
  intro p e s m below meth c T0 hy hml hret hlk hnm W0
  refine o_aloadN W0 (pc' := 1) (hb hy d17_0) rfl rfl rfl ?_
  refine o_virtual W0 (y := (⟨"java/lang/String", "coder", "()B"⟩ : MethodName)) (z := (⟨"java/lang/String", "coder", "()B"⟩ : MethodName)) (w76 hw) (w77 hw) (o_nf W0 rfl (w79 hw)) (w79 hw) (w78 hw) (by decide) E_a1 (argsL := []) (CtrN.back (Wd := 0) W0 (rm18 l Z a0 hw gCS a1 h0 W0.old SgCS NgCS F_a1_coder) (w80 hw) (w23 hw) (by decide) (by decide)) (by rw [hml]; rfl) (lenOf pd3 rfl) (S := []) rfl (by exact Nat.le_of_eq rfl) (pc' := 4) (hb hy d17_1) rfl (cells' := 0) (slots' := 0) rfl rfl (by decide) (by decide) (wy := []) (fun _ _ _ q => ⟨q.1, q.2.1⟩) all0 (fun _ _ => trivial) ?_
  intro v1 T1 h1 lo1 W1 K1 q1
  obtain rfl := q1.2.2
  show Gl _ _ _ _ _ _ _ _ [(.int 0)]
  refine o_iloadN W1 (pc' := 5) (hb hy d17_4) rfl rfl ?_
  refine o_icmpN W1 (pc' := 8) (hb hy d17_5) (XT.ii_ne_f (by decide)) rfl ?_
  refine o_aloadN W1 (pc' := 9) (hb hy d17_8) rfl rfl rfl ?_
  have c2 := (F_a1_value.keep K1 nin0)
  refine o_getF W1 (w49 hw) Via.refl c2 (pc' := 12) (hb hy d17_9) rfl ?_
  intro T3 W3
  refine o_iconst W3 (v := 0) (pc' := 13) (hb hy d17_12) rfl rfl ?_
  refine o_aloadN W3 (pc' := 14) (hb hy d17_13) rfl rfl rfl ?_
  refine o_iloadN W3 (pc' := 15) (hb hy d17_14) rfl rfl ?_
  refine o_iloadN W3 (pc' := 16) (hb hy d17_15) rfl rfl ?_
  refine o_ishl W3 (v := 6) (pc' := 17) (hb hy d17_16) (by decide) rfl ?_
  refine o_aloadN W3 (pc' := 18) (hb hy d17_17) rfl rfl rfl ?_
  refine o_getF W3 (w49 hw) Via.refl c2 (pc' := 21) (hb hy d17_18) rfl ?_
  intro T4 W4
  have c5 := (V_a3.keep K1 nin0)
  refine o_len W4 c5 (pc' := 22) (hb hy d17_21) rfl ?_
  have c6 := (V_a2.keep K1 nin0)
  refine o_copy W4 (w104 hw) (w107 hw) (w105 hw) (w106 hw) c5 c6 (us := [(.int (StrChars.lo8 x1))]) (Or.inl ⟨rfl, rfl⟩) (by decide) (by decide) (by decide) (by decide) (by decide) rfl (Nat.le_of_ble_eq_true rfl) (vd' := [(.int x2), (.int x3), (.int x4), (.int 62), (.int x5), (.int x6), (.int (StrChars.lo8 x1)), (.int 0), (.int 0), (.int 0), (.int 0), (.int 0), (.int 0), (.int 0), (.int 0), (.int 0)]) rfl g_a2 (Or.inl (List.mem_of_getElem? (i := 0) rfl)) (fun _ _ => trivial) (by rw [hml]; rfl) (pc' := 25) (hb hy d17_22) rfl (by decide) 0 (by exact Nat.le_of_eq rfl) (by decide) ?_
  intro T7 h7 lo7 W7 K7 V7
  refine o_goto W7 (pc' := 43) (hb hy d17_25) (by decide) rfl ?_
  exact o_ret0 W7 hlk hret (hb hy d17_43) (by decide) (by decide) ⟨V7, rfl⟩
theorem rm77 (l : Launch) (Z : State) (a0 : Array Value) (hw : ∀ d ∈ tables_1, d.before a0 Z = true) (gCS : Int32) (a1 a2 a3 a4 : Addr) (k_a4 : ClassId) (x1 : Int32) (k_a3 : ClassId) (x2 x3 x4 x5 x6 : Int32) (h0 : Heap) (O0 : Old Z Z.heap.size h0) (E_a1 : Exa Z h0 a1 "java/lang/StringBuilder") (SgCS : Sta Z Z.heap "java/lang/String" "COMPACT_STRINGS" "Z" (.int gCS)) (NgCS : ¬ (gCS = (0 : Int32))) (F_a1_coder : Fld Z h0 a1 "java/lang/AbstractStringBuilder" "coder" "B" (.int 0)) (E_a2 : Exa Z h0 a2 "java/lang/String") (F_a2_coder : Fld Z h0 a2 "java/lang/String" "coder" "B" (.int 0)) (F_a1_value : Fld Z h0 a1 "java/lang/AbstractStringBuilder" "value" "[B" (.ref a3)) (F_a2_value : Fld Z h0 a2 "java/lang/String" "value" "[B" (.ref a4)) (V_a4 : Arv Z h0 a4 k_a4 .byte (1 : Int32) [(.int (StrChars.lo8 x1))] (.int 0)) (V_a3 : Arv Z h0 a3 k_a3 .byte (16 : Int32) [(.int x2), (.int x3), (.int x4), (.int 62), (.int x5), (.int x6), (.int 0), (.int 0), (.int 0), (.int 0), (.int 0), (.int 0), (.int 0), (.int 0), (.int 0), (.int 0)] (.int 0)) (g_a3 : Z.heap.size ≤ a3) :
    CtrN l Z (⟨"java/lang/AbstractStringBuilder", "putStringAt", "(ILjava/lang/String;)V"⟩ : MethodName) jdk_68_method_73_code 3 none [] (⟨2, 0, 0, 42⟩ : Room) #[(.ref a1), (.int 6), (.ref a2)] h0 [a3] (fun v h => Arv Z h a3 k_a3 .byte (16 : Int32) [(.int x2), (.int x3), (.int x4), (.int 62), (.int x5), (.int x6), (.int (StrChars.lo8 x1)), (.int 0), (.int 0), (.int 0), (.int 0), (.int 0), (.int 0), (.int 0), (.int 0), (.int 0)] (.int 0) ∧ v = none) := by
  refine CtrN.intro (L0 := #[.val (.ref a1), .val (.int 6), .val (.ref a2)]) (plainFor_of_name pn0) O0 (own_entry rfl) ?_
  intro p e s m below meth c T0 hy hml hret hlk hnm W0
  refine o_aloadN W0 (pc' := 1) (hb hy d15_0) rfl rfl rfl ?_
  refine o_aloadN W0 (pc' := 2) (hb hy d15_1) rfl rfl rfl ?_
  refine o_private W0 (y := (⟨"java/lang/AbstractStringBuilder", "inflateIfNeededFor", "(Ljava/lang/String;)V"⟩ : MethodName)) (w93 hw) (w94 hw) (w96 hw) (w95 hw) (w97 hw) (by decide) E_a1 (argsL := [(.ref a2)]) (CtrN.back (Wd := 0) W0 (rm21 l Z a0 hw gCS a1 a2 h0 W0.old SgCS NgCS F_a1_coder E_a2 F_a2_coder) (w97 hw) (w19 hw) (by decide) (by decide)) (by rw [hml]; rfl) (lenOf pd14 rfl) (S := []) rfl (by exact Nat.le_of_eq rfl) (pc' := 5) (hb hy d15_2) rfl (cells' := 0) (slots' := 0) rfl rfl (by decide) (by decide) (wy := []) (fun _ _ _ q => ⟨q.1, q.2.1⟩) all0 (fun _ _ => trivial) ?_
  intro v1 T1 h1 lo1 W1 K1 q1
  obtain rfl := q1.2.2
  show Gl _ _ _ _ _ _ _ _ []
  refine o_aloadN W1 (pc' := 6) (hb hy d15_5) rfl rfl rfl ?_
  refine o_aloadN W1 (pc' := 7) (hb hy d15_6) rfl rfl rfl ?_
  have c2 := (F_a1_value.keep K1 nin0)
  refine o_getF W1 (w25 hw) Via.refl c2 (pc' := 10) (hb hy d15_7) rfl ?_
  intro T3 W3
  refine o_iloadN W3 (pc' := 11) (hb hy d15_10) rfl rfl ?_
  refine o_aloadN W3 (pc' := 12) (hb hy d15_11) rfl rfl rfl ?_
  have c4 := (F_a1_coder.keep K1 nin0)
  refine o_getF W3 (w27 hw) Via.refl c4 (pc' := 15) (hb hy d15_12) rfl ?_
  intro T5 W5
  have c6 := (F_a2_coder.keep K1 nin0)
  have c7 := (F_a2_value.keep K1 nin0)
  have c8 := (V_a4.keep K1 nin0)
  have c9 := (V_a3.keep K1 nin0)
  have c10 := (E_a2.keep K1)
  refine o_virtual W5 (y := (⟨"java/lang/String", "getBytes", "([BIB)V"⟩ : MethodName)) (z := (⟨"java/lang/String", "getBytes", "([BIB)V"⟩ : MethodName)) (w99 hw) (w100 hw) (o_nf W5 rfl (w102 hw)) (w102 hw) (w101 hw) (by decide) c10 (argsL := [(.ref a3), (.int 6), (.int 0)]) (CtrN.back (Wd := 0) W5 (rm76 l Z a0 hw gCS a2 a3 a4 k_a4 x1 k_a3 x2 x3 x4 x5 x6 h1 W5.old c10 SgCS NgCS c6 c7 c8 c9 g_a3) (w103 hw) (w23 hw) (by decide) (by decide)) (by rw [hml]; rfl) (lenOf pd5 rfl) (S := []) rfl (by exact Nat.le_of_eq rfl) (pc' := 18) (hb hy d15_15) rfl (cells' := 0) (slots' := 0) rfl rfl (by decide) (by decide) (wy := [a3]) (fun _ _ _ q => ⟨q.1, q.2.1⟩) (allS ⟨g_a3, (Or.inl (List.mem_of_getElem? (i := 0) rfl))⟩ all0) (fun _ _ => trivial) ?_
  intro v11 T11 h11 lo11 W11 K11 q11
  obtain ⟨P11_0, rfl⟩ := q11.2.2
  show Gl _ _ _ _ _ _ _ _ []
  exact o_ret0 W11 hlk hret (hb hy d15_18) (by decide) (by decide) ⟨P11_0, rfl⟩
theorem rm78 (l : Launch) (Z : State) (a0 : Array Value) (hw : ∀ d ∈ tables_1, d.before a0 Z = true) (gCS : Int32) (a1 a2 a3 : Addr) (k_a3 : ClassId) (x1 : Int32) (a4 : Addr) (k_a4 : ClassId) (x2 x3 x4 x5 x6 : Int32) (h0 : Heap) (O0 : Old Z Z.heap.size h0) (E_a2 : Exa Z h0 a2 "java/lang/String") (F_a2_value : Fld Z h0 a2 "java/lang/String" "value" "[B" (.ref a3)) (V_a3 : Arv Z h0 a3 k_a3 .byte (1 : Int32) [(.int (StrChars.lo8 x1))] (.int 0)) (SgCS : Sta Z Z.heap "java/lang/String" "COMPACT_STRINGS" "Z" (.int gCS)) (NgCS : ¬ (gCS = (0 : Int32))) (F_a2_coder : Fld Z h0 a2 "java/lang/String" "coder" "B" (.int 0)) (F_a1_count : Fld Z h0 a1 "java/lang/AbstractStringBuilder" "count" "I" (.int 6)) (E_a1 : Exa Z h0 a1 "java/lang/StringBuilder") (F_a1_value : Fld Z h0 a1 "java/lang/AbstractStringBuilder" "value" "[B" (.ref a4)) (V_a4 : Arv Z h0 a4 k_a4 .byte (16 : Int32) [(.int x2), (.int x3), (.int x4), (.int 62), (.int x5), (.int x6), (.int 0), (.int 0), (.int 0), (.int 0), (.int 0), (.int 0), (.int 0), (.int 0), (.int 0), (.int 0)] (.int 0)) (F_a1_coder : Fld Z h0 a1 "java/lang/AbstractStringBuilder" "coder" "B" (.int 0)) (g_a4 : Z.heap.size ≤ a4) (g_a1 : Z.heap.size ≤ a1) (F_a1_maybeLatin1 : Fld Z h0 a1 "java/lang/AbstractStringBuilder" "maybeLatin1" "Z" (.int 0)) :
    CtrN l Z (⟨"java/lang/AbstractStringBuilder", "append", "(Ljava/lang/String;)Ljava/lang/AbstractStringBuilder;"⟩ : MethodName) jdk_68_method_22_code 3 (some (.object "java/lang/AbstractStringBuilder")) [] (⟨3, 0, 0, 56⟩ : Room) #[(.ref a1), (.ref a2)] h0 [a4, a1] (fun v h => Fld Z h a1 "java/lang/AbstractStringBuilder" "count" "I" (.int 7) ∧ Fld Z h a1 "java/lang/AbstractStringBuilder" "value" "[B" (.ref a4) ∧ Arv Z h a4 k_a4 .byte (16 : Int32) [(.int x2), (.int x3), (.int x4), (.int 62), (.int x5), (.int x6), (.int (StrChars.lo8 x1)), (.int 0), (.int 0), (.int 0), (.int 0), (.int 0), (.int 0), (.int 0), (.int 0), (.int 0)] (.int 0) ∧ Fld Z h a1 "java/lang/AbstractStringBuilder" "coder" "B" (.int 0) ∧ Fld Z h a1 "java/lang/AbstractStringBuilder" "maybeLatin1" "Z" (.int 0) ∧ v = some (.ref a1)) := by
  refine CtrN.intro (L0 := #[.val (.ref a1), .val (.ref a2), .unset]) (plainFor_of_name pn0) O0 (own_entry rfl) ?_
  intro p e s m below meth c T0 hy hml hret hlk hnm W0
  refine o_aloadN W0 (pc' := 1) (hb hy d11_0) rfl rfl rfl ?_
  refine o_ifnonnullY W0 (pc' := 9) (hb hy d11_1) (by decide) rfl ?_
  refine o_aloadN W0 (pc' := 10) (hb hy d11_9) rfl rfl rfl ?_
  refine o_virtual W0 (y := (⟨"java/lang/String", "length", "()I"⟩ : MethodName)) (z := (⟨"java/lang/String", "length", "()I"⟩ : MethodName)) (w71 hw) (w72 hw) (o_nf W0 rfl (w74 hw)) (w74 hw) (w73 hw) (by decide) E_a2 (argsL := []) (CtrN.back (Wd := 0) W0 (rm26 l Z a0 hw gCS a2 a3 k_a3 x1 h0 W0.old F_a2_value V_a3 E_a2 SgCS NgCS F_a2_coder) (w75 hw) (w23 hw) (by decide) (by decide)) (by rw [hml]; rfl) (lenOf pd2 rfl) (S := []) rfl (by exact Nat.le_of_eq rfl) (pc' := 13) (hb hy d11_10) rfl (cells' := 0) (slots' := 0) rfl rfl (by decide) (by decide) (wy := []) (fun _ _ _ q => ⟨q.1, q.2.1⟩) all0 (fun _ _ => trivial) ?_
  intro v1 T1 h1 lo1 W1 K1 q1
  obtain rfl := q1.2.2
  show Gl _ _ _ _ _ _ _ _ [(.int 1)]
  refine o_istoreN W1 (L' := #[.val (.ref a1), .val (.ref a2), .val (.int 1)]) (pc' := 14) (hb hy d11_13) rfl rfl ?_
  refine o_aloadN W1 (pc' := 15) (hb hy d11_14) rfl rfl rfl ?_
  refine o_aloadN W1 (pc' := 16) (hb hy d11_15) rfl rfl rfl ?_
  have c2 := (F_a1_count.keep K1 nin0)
  refine o_getF W1 (w81 hw) Via.refl c2 (pc' := 19) (hb hy d11_16) rfl ?_
  intro T3 W3
  refine o_iloadN W3 (pc' := 20) (hb hy d11_19) rfl rfl ?_
  refine o_iadd W3 (v := 7) (pc' := 21) (hb hy d11_20) (by decide) rfl ?_
  have c4 := (E_a1.keep K1)
  have c5 := (F_a1_value.keep K1 nin0)
  have c6 := (V_a4.keep K1 nin0)
  have c7 := (F_a1_coder.keep K1 nin0)
  refine o_private W3 (y := (⟨"java/lang/AbstractStringBuilder", "ensureCapacityInternal", "(I)V"⟩ : MethodName)) (w83 hw) (w84 hw) (w86 hw) (w85 hw) (w87 hw) (by decide) c4 (argsL := [(.int 7)]) (CtrN.back (Wd := 0) W3 (rm75 l Z a0 hw a1 a4 k_a4 x2 x3 x4 x5 x6 h1 W3.old c5 c6 c7) (w87 hw) (w19 hw) (by decide) (by decide)) (by rw [hml]; rfl) (lenOf pd0 rfl) (S := []) rfl (by exact Nat.le_of_eq rfl) (pc' := 24) (hb hy d11_21) rfl (cells' := 0) (slots' := 0) rfl rfl (by decide) (by decide) (wy := []) (fun _ _ _ q => ⟨q.1, q.2.1⟩) all0 (fun _ _ => trivial) ?_
  intro v8 T8 h8 lo8 W8 K8 q8
  obtain rfl := q8.2.2
  show Gl _ _ _ _ _ _ _ _ []
  refine o_aloadN W8 (pc' := 25) (hb hy d11_24) rfl rfl rfl ?_
  refine o_aloadN W8 (pc' := 26) (hb hy d11_25) rfl rfl rfl ?_
  have c9 := (c2.keep K8 nin0)
  refine o_getF W8 (w81 hw) Via.refl c9 (pc' := 29) (hb hy d11_26) rfl ?_
  intro T10 W10
  refine o_aloadN W10 (pc' := 30) (hb hy d11_29) rfl rfl rfl ?_
  have c11 := (c7.keep K8 nin0)
  have c12 := ((F_a2_coder.keep K1 nin0).keep K8 nin0)
  have c13 := (c5.keep K8 nin0)
  have c14 := ((F_a2_value.keep K1 nin0).keep K8 nin0)
  have c15 := ((V_a3.keep K1 nin0).keep K8 nin0)
  have c16 := (c6.keep K8 nin0)
  have c17 := (c4.keep K8)
  have c18 := ((E_a2.keep K1).keep K8)
  refine o_private W10 (y := (⟨"java/lang/AbstractStringBuilder", "putStringAt", "(ILjava/lang/String;)V"⟩ : MethodName)) (w88 hw) (w89 hw) (w91 hw) (w90 hw) (w92 hw) (by decide) c17 (argsL := [(.int 6), (.ref a2)]) (CtrN.back (Wd := 0) W10 (rm77 l Z a0 hw gCS a1 a2 a4 a3 k_a3 x1 k_a4 x2 x3 x4 x5 x6 h8 W10.old c17 SgCS NgCS c11 c18 c12 c13 c14 c15 c16 g_a4) (w92 hw) (w19 hw) (by decide) (by decide)) (by rw [hml]; rfl) (lenOf pd15 rfl) (S := []) rfl (by exact Nat.le_of_eq rfl) (pc' := 33) (hb hy d11_30) rfl (cells' := 0) (slots' := 0) rfl rfl (by decide) (by decide) (wy := [a4]) (fun _ _ _ q => ⟨q.1, q.2.1⟩) (allS ⟨g_a4, (Or.inl (List.mem_of_getElem? (i := 0) rfl))⟩ all0) (fun _ _ => trivial) ?_
  intro v19 T19 h19 lo19 W19 K19 q19
  obtain ⟨P19_0, rfl⟩ := q19.2.2
  show Gl _ _ _ _ _ _ _ _ []
  refine o_aloadN W19 (pc' := 34) (hb hy d11_33) rfl rfl rfl ?_
  refine o_dup W19 (pc' := 35) (hb hy d11_34) rfl rfl ?_
  have c20 := (c17.keep K19)
  have c21 := (c9.keep K19 (ninS (Exa.neArv c17 c16 (w10 hw)) nin0))
  refine o_getF W19 (w81 hw) Via.refl c21 (pc' := 38) (hb hy d11_35) rfl ?_
  intro T22 W22
  refine o_iloadN W22 (pc' := 39) (hb hy d11_38) rfl rfl ?_
  refine o_iadd W22 (v := 7) (pc' := 40) (hb hy d11_39) (by decide) rfl ?_
  refine o_putF W22 (w81 hw) Via.refl c21 c20 (Or.inl (w82 hw)) (w10 hw) (ty := .int) (v' := (.int 7)) (by decide) rfl rfl g_a1 (Or.inl (List.mem_of_getElem? (i := 1) rfl)) (fun _ _ => trivial) (pc' := 43) (hb hy d11_40) rfl ?_
  intro T23 h23 lo23 W23 R23
  have F23 := c21.same R23
  refine o_aloadN W23 (pc' := 44) (hb hy d11_43) rfl rfl rfl ?_
  have c24 := (c20.wr R23)
  have c25 := ((c13.keep K19 (ninS (Exa.neArv c17 c16 (w10 hw)) nin0)).other R23 (Or.inr (slot_ne (Or.inl (w26 hw)) (Or.inl (w82 hw)) (by decide) (t := (.array .byte)) (t' := .int) (by decide) (by decide))))
  have c26 := ((c11.keep K19 (ninS (Exa.neArv c17 c16 (w10 hw)) nin0)).other R23 (Or.inr (slot_ne (Or.inl (w28 hw)) (Or.inl (w82 hw)) (by decide) (t := .byte) (t' := .int) (by decide) (by decide))))
  have c27 := ((((F_a1_maybeLatin1.keep K1 nin0).keep K8 nin0).keep K19 (ninS (Exa.neArv c17 c16 (w10 hw)) nin0)).other R23 (Or.inr (slot_ne (Or.inl (w171 hw)) (Or.inl (w82 hw)) (by decide) (t := .boolean) (t' := .int) (by decide) (by decide))))
  have c28 := (P19_0.other R23 (Ne.symm (Exa.neArv c20 P19_0 (w10 hw))))
  exact o_retA W23 hlk (v := (.ref a1)) hret rfl rfl (hb hy d11_44) (by decide) (by decide) ⟨F23, c25, c28, c26, c27, rfl⟩
theorem rm79 (l : Launch) (Z : State) (a0 : Array Value) (hw : ∀ d ∈ tables_1, d.before a0 Z = true) (gCS : Int32) (a1 a2 a3 : Addr) (k_a3 : ClassId) (x1 : Int32) (a4 : Addr) (k_a4 : ClassId) (x2 x3 x4 x5 x6 : Int32) (h0 : Heap) (O0 : Old Z Z.heap.size h0) (E_a2 : Exa Z h0 a2 "java/lang/String") (F_a2_value : Fld Z h0 a2 "java/lang/String" "value" "[B" (.ref a3)) (V_a3 : Arv Z h0 a3 k_a3 .byte (1 : Int32) [(.int (StrChars.lo8 x1))] (.int 0)) (SgCS : Sta Z Z.heap "java/lang/String" "COMPACT_STRINGS" "Z" (.int gCS)) (NgCS : ¬ (gCS = (0 : Int32))) (F_a2_coder : Fld Z h0 a2 "java/lang/String" "coder" "B" (.int 0)) (F_a1_count : Fld Z h0 a1 "java/lang/AbstractStringBuilder" "count" "I" (.int 6)) (E_a1 : Exa Z h0 a1 "java/lang/StringBuilder") (F_a1_value : Fld Z h0 a1 "java/lang/AbstractStringBuilder" "value" "[B" (.ref a4)) (V_a4 : Arv Z h0 a4 k_a4 .byte (16 : Int32) [(.int x2), (.int x3), (.int x4), (.int 62), (.int x5), (.int x6), (.int 0), (.int 0), (.int 0), (.int 0), (.int 0), (.int 0), (.int 0), (.int 0), (.int 0), (.int 0)] (.int 0)) (F_a1_coder : Fld Z h0 a1 "java/lang/AbstractStringBuilder" "coder" "B" (.int 0)) (F_a1_maybeLatin1 : Fld Z h0 a1 "java/lang/AbstractStringBuilder" "maybeLatin1" "Z" (.int 0)) (g_a4 : Z.heap.size ≤ a4) (g_a1 : Z.heap.size ≤ a1) :
    CtrN l Z (⟨"java/lang/StringBuilder", "append", "(Ljava/lang/String;)Ljava/lang/StringBuilder;"⟩ : MethodName) jdk_67_method_7_code 2 (some (.object "java/lang/StringBuilder")) [] (⟨4, 0, 0, 70⟩ : Room) #[(.ref a1), (.ref a2)] h0 [a1, a4] (fun v h => Fld Z h a1 "java/lang/AbstractStringBuilder" "count" "I" (.int 7) ∧ Fld Z h a1 "java/lang/AbstractStringBuilder" "value" "[B" (.ref a4) ∧ Arv Z h a4 k_a4 .byte (16 : Int32) [(.int x2), (.int x3), (.int x4), (.int 62), (.int x5), (.int x6), (.int (StrChars.lo8 x1)), (.int 0), (.int 0), (.int 0), (.int 0), (.int 0), (.int 0), (.int 0), (.int 0), (.int 0)] (.int 0) ∧ Fld Z h a1 "java/lang/AbstractStringBuilder" "coder" "B" (.int 0) ∧ Fld Z h a1 "java/lang/AbstractStringBuilder" "maybeLatin1" "Z" (.int 0) ∧ v = some (.ref a1)) := by
  refine CtrN.intro (L0 := #[.val (.ref a1), .val (.ref a2)]) (plainFor_of_name pn1) O0 (own_entry rfl) ?_
  intro p e s m below meth c T0 hy hml hret hlk hnm W0
  refine o_aloadN W0 (pc' := 1) (hb hy d10_0) rfl rfl rfl ?_
  refine o_aloadN W0 (pc' := 2) (hb hy d10_1) rfl rfl rfl ?_
  refine o_super W0 (y := (⟨"java/lang/AbstractStringBuilder", "append", "(Ljava/lang/String;)Ljava/lang/AbstractStringBuilder;"⟩ : MethodName)) (by decide) (w66 hw) (w67 hw) (own_sameM (y := (⟨"java/lang/AbstractStringBuilder", "append", "(Ljava/lang/String;)Ljava/lang/AbstractStringBuilder;"⟩ : MethodName)) (by decide) (w67 hw) (w138 hw)) (w68 hw) (w70 hw) (Ins.self E_a1) (argsL := [(.ref a2)]) (CtrN.back (Wd := 0) W0 (rm78 l Z a0 hw gCS a1 a2 a3 k_a3 x1 a4 k_a4 x2 x3 x4 x5 x6 h0 W0.old E_a2 F_a2_value V_a3 SgCS NgCS F_a2_coder F_a1_count E_a1 F_a1_value V_a4 F_a1_coder g_a4 g_a1 F_a1_maybeLatin1) (w70 hw) (w19 hw) (by decide) (by decide)) (by rw [hml]; rfl) (lenOf pd16 rfl) (S := []) rfl (by exact Nat.le_of_eq rfl) (pc' := 5) (hb hy d10_2) rfl (cells' := 0) (slots' := 0) rfl rfl (by decide) (by decide) (wy := [a4, a1]) (fun _ _ _ q => ⟨q.1, q.2.1⟩) (allS ⟨g_a4, (Or.inl (List.mem_of_getElem? (i := 1) rfl))⟩ (allS ⟨g_a1, (Or.inl (List.mem_of_getElem? (i := 0) rfl))⟩ all0)) (fun _ _ => trivial) ?_
  intro v1 T1 h1 lo1 W1 K1 q1
  obtain ⟨P1_0, P1_1, P1_2, P1_3, P1_4, rfl⟩ := q1.2.2
  show Gl _ _ _ _ _ _ _ _ [(.ref a1)]
  refine o_pop W1 (pc' := 6) (hb hy d10_5) rfl rfl ?_
  refine o_aloadN W1 (pc' := 7) (hb hy d10_6) rfl rfl rfl ?_
  have c2 := (E_a1.keep K1)
  exact o_retA W1 hlk (v := (.ref a1)) hret rfl rfl (hb hy d10_7) (by decide) (by decide) ⟨P1_0, P1_1, P1_2, P1_3, P1_4, rfl⟩
theorem rm80 (l : Launch) (Z : State) (a0 : Array Value) (hw : ∀ d ∈ tables_1, d.before a0 Z = true) (a1 a2 : Addr) (k_a2 : ClassId) (x1 x2 x3 x4 x5 x6 : Int32) (h0 : Heap) (O0 : Old Z Z.heap.size h0) (F_a1_value : Fld Z h0 a1 "java/lang/AbstractStringBuilder" "value" "[B" (.ref a2)) (V_a2 : Arv Z h0 a2 k_a2 .byte (16 : Int32) [(.int x1), (.int x2), (.int x3), (.int 62), (.int x4), (.int x5), (.int x6), (.int 0), (.int 0), (.int 0), (.int 0), (.int 0), (.int 0), (.int 0), (.int 0), (.int 0)] (.int 0)) (F_a1_coder : Fld Z h0 a1 "java/lang/AbstractStringBuilder" "coder" "B" (.int 0)) :
    CtrN l Z (⟨"java/lang/AbstractStringBuilder", "ensureCapacityInternal", "(I)V"⟩ : MethodName) jdk_68_method_9_code 3 none [] (⟨0, 0, 0, 0⟩ : Room) #[(.ref a1), (.int 8)] h0 [] (fun v h => v = none) := by
  refine CtrN.intro (L0 := #[.val (.ref a1), .val (.int 8), .unset]) (plainFor_of_name pn0) O0 (own_entry rfl) ?_
  intro p e s m below meth c T0 hy hml hret hlk hnm W0
  refine o_aloadN W0 (pc' := 1) (hb hy d14_0) rfl rfl rfl ?_
  refine o_getF W0 (w25 hw) Via.refl F_a1_value (pc' := 4) (hb hy d14_1) rfl ?_
  intro T1 W1
  refine o_len W1 V_a2 (pc' := 5) (hb hy d14_4) rfl ?_
  refine o_aloadN W1 (pc' := 6) (hb hy d14_5) rfl rfl rfl ?_
  refine o_getF W1 (w27 hw) Via.refl F_a1_coder (pc' := 9) (hb hy d14_6) rfl ?_
  intro T2 W2
  refine o_ishr W2 (v := 16) (pc' := 10) (hb hy d14_9) (by decide) rfl ?_
  refine o_istoreN W2 (L' := #[.val (.ref a1), .val (.int 8), .val (.int 16)]) (pc' := 11) (hb hy d14_10) rfl rfl ?_
  refine o_iloadN W2 (pc' := 12) (hb hy d14_11) rfl rfl ?_
  refine o_iloadN W2 (pc' := 13) (hb hy d14_12) rfl rfl ?_
  refine o_isub W2 (v := (-8 : Int32)) (pc' := 14) (hb hy d14_13) (by decide) rfl ?_
  refine o_ifY W2 (pc' := 38) (hb hy d14_14) (XT.i0_le_t (by decide)) (by decide) rfl ?_
  exact o_ret0 W2 hlk hret (hb hy d14_38) (by decide) (by decide) rfl
theorem rm81 (l : Launch) (Z : State) (a0 : Array Value) (hw : ∀ d ∈ tables_1, d.before a0 Z = true) (gCS : Int32) (a1 a2 : Addr) (k_a2 : ClassId) (x1 x2 x3 x4 x5 x6 : Int32) (h0 : Heap) (O0 : Old Z Z.heap.size h0) (F_a1_count : Fld Z h0 a1 "java/lang/AbstractStringBuilder" "count" "I" (.int 7)) (E_a1 : Exa Z h0 a1 "java/lang/StringBuilder") (F_a1_value : Fld Z h0 a1 "java/lang/AbstractStringBuilder" "value" "[B" (.ref a2)) (V_a2 : Arv Z h0 a2 k_a2 .byte (16 : Int32) [(.int x1), (.int x2), (.int x3), (.int 62), (.int x4), (.int x5), (.int x6), (.int 0), (.int 0), (.int 0), (.int 0), (.int 0), (.int 0), (.int 0), (.int 0), (.int 0)] (.int 0)) (F_a1_coder : Fld Z h0 a1 "java/lang/AbstractStringBuilder" "coder" "B" (.int 0)) (SgCS : Sta Z Z.heap "java/lang/String" "COMPACT_STRINGS" "Z" (.int gCS)) (NgCS : ¬ (gCS = (0 : Int32))) (g_a1 : Z.heap.size ≤ a1) (g_a2 : Z.heap.size ≤ a2) (F_a1_maybeLatin1 : Fld Z h0 a1 "java/lang/AbstractStringBuilder" "maybeLatin1" "Z" (.int 0)) :
    CtrN l Z (⟨"java/lang/AbstractStringBuilder", "append", "(C)Ljava/lang/AbstractStringBuilder;"⟩ : MethodName) jdk_68_method_31_code 2 (some (.object "java/lang/AbstractStringBuilder")) [] (⟨1, 0, 0, 14⟩ : Room) #[(.ref a1), (.int 62)] h0 [a1, a2] (fun v h => Fld Z h a1 "java/lang/AbstractStringBuilder" "count" "I" (.int 8) ∧ Fld Z h a1 "java/lang/AbstractStringBuilder" "value" "[B" (.ref a2) ∧ Arv Z h a2 k_a2 .byte (16 : Int32) [(.int x1), (.int x2), (.int x3), (.int 62), (.int x4), (.int x5), (.int x6), (.int 62), (.int 0), (.int 0), (.int 0), (.int 0), (.int 0), (.int 0), (.int 0), (.int 0)] (.int 0) ∧ Fld Z h a1 "java/lang/AbstractStringBuilder" "coder" "B" (.int 0) ∧ Fld Z h a1 "java/lang/AbstractStringBuilder" "maybeLatin1" "Z" (.int 0) ∧ v = some (.ref a1)) := by
  refine CtrN.intro (L0 := #[.val (.ref a1), .val (.int 62)]) (plainFor_of_name pn0) O0 (own_entry rfl) ?_
  intro p e s m below meth c T0 hy hml hret hlk hnm W0
  refine o_aloadN W0 (pc' := 1) (hb hy d19_0) rfl rfl rfl ?_
  refine o_aloadN W0 (pc' := 2) (hb hy d19_1) rfl rfl rfl ?_
  refine o_getF W0 (w81 hw) Via.refl F_a1_count (pc' := 5) (hb hy d19_2) rfl ?_
  intro T1 W1
  refine o_iconst W1 (v := 1) (pc' := 6) (hb hy d19_5) rfl rfl ?_
  refine o_iadd W1 (v := 8) (pc' := 7) (hb hy d19_6) (by decide) rfl ?_
  refine o_private W1 (y := (⟨"java/lang/AbstractStringBuilder", "ensureCapacityInternal", "(I)V"⟩ : MethodName)) (w83 hw) (w84 hw) (w86 hw) (w85 hw) (w87 hw) (by decide) E_a1 (argsL := [(.int 8)]) (CtrN.back (Wd := 0) W1 (rm80 l Z a0 hw a1 a2 k_a2 x1 x2 x3 x4 x5 x6 h0 W1.old F_a1_value V_a2 F_a1_coder) (w87 hw) (w19 hw) (by decide) (by decide)) (by rw [hml]; rfl) (lenOf pd0 rfl) (S := []) rfl (by exact Nat.le_of_eq rfl) (pc' := 10) (hb hy d19_7) rfl (cells' := 0) (slots' := 0) rfl rfl (by decide) (by decide) (wy := []) (fun _ _ _ q => ⟨q.1, q.2.1⟩) all0 (fun _ _ => trivial) ?_
  intro v2 T2 h2 lo2 W2 K2 q2
  obtain rfl := q2.2.2
  show Gl _ _ _ _ _ _ _ _ []
  refine o_aloadN W2 (pc' := 11) (hb hy d19_10) rfl rfl rfl ?_
  have c3 := (F_a1_coder.keep K2 nin0)
  have c4 := (E_a1.keep K2)
  refine o_virtual W2 (y := (⟨"java/lang/AbstractStringBuilder", "isLatin1", "()Z"⟩ : MethodName)) (z := (⟨"java/lang/AbstractStringBuilder", "isLatin1", "()Z"⟩ : MethodName)) (w117 hw) (w118 hw) (o_nf W2 rfl (w120 hw)) (w120 hw) (w119 hw) (by decide) c4 (argsL := []) (CtrN.back (Wd := 0) W2 (rm33 l Z a0 hw gCS a1 h2 W2.old SgCS NgCS c3) (w121 hw) (w19 hw) (by decide) (by decide)) (by rw [hml]; rfl) (lenOf pd18 rfl) (S := []) rfl (by exact Nat.le_of_eq rfl) (pc' := 14) (hb hy d19_11) rfl (cells' := 0) (slots' := 0) rfl rfl (by decide) (by decide) (wy := []) (fun _ _ _ q => ⟨q.1, q.2.1⟩) all0 (fun _ _ => trivial) ?_
  intro v5 T5 h5 lo5 W5 K5 q5
  obtain rfl := q5.2.2
  show Gl _ _ _ _ _ _ _ _ [(.int 1)]
  refine o_ifN W5 (pc' := 17) (hb hy d19_14) (XT.i0_eq_f (by decide)) rfl ?_
  refine o_iloadN W5 (pc' := 18) (hb hy d19_17) rfl rfl ?_
  refine o_static W5 (y := (⟨"java/lang/StringLatin1", "canEncode", "(C)Z"⟩ : MethodName)) (w122 hw) (w36 hw) (w37 hw) (w38 hw) (by decide) (argsL := [(.int 62)]) (CtrN.back (Wd := 0) W5 (rm34 l Z a0 hw  h5 W5.old ) (w38 hw) (w37 hw) (by decide) (by decide)) (by rw [hml]; rfl) (lenOf pd10 rfl) (S := []) rfl (by exact Nat.le_of_eq rfl) (pc' := 21) (hb hy d19_18) rfl (cells' := 0) (slots' := 0) rfl rfl (by decide) (by decide) (wy := []) (fun _ _ _ q => ⟨q.1, q.2.1⟩) all0 (fun _ _ => trivial) ?_
  intro v6 T6 h6 lo6 W6 K6 q6
  obtain rfl := q6.2.2
  show Gl _ _ _ _ _ _ _ _ [(.int 1)]
  refine o_ifN W6 (pc' := 24) (hb hy d19_21) (XT.i0_eq_f (by decide)) rfl ?_
  refine o_aloadN W6 (pc' := 25) (hb hy d19_24) rfl rfl rfl ?_
  have c7 := (((F_a1_value.keep K2 nin0).keep K5 nin0).keep K6 nin0)
  refine o_getF W6 (w25 hw) Via.refl c7 (pc' := 28) (hb hy d19_25) rfl ?_
  intro T8 W8
  refine o_aloadN W8 (pc' := 29) (hb hy d19_28) rfl rfl rfl ?_
  refine o_dup W8 (pc' := 30) (hb hy d19_29) rfl rfl ?_
  have c9 := (((F_a1_count.keep K2 nin0).keep K5 nin0).keep K6 nin0)
  refine o_getF W8 (w81 hw) Via.refl c9 (pc' := 33) (hb hy d19_30) rfl ?_
  intro T10 W10
  refine o_dupX1 W10 (pc' := 34) (hb hy d19_33) rfl rfl rfl ?_
  refine o_iconst W10 (v := 1) (pc' := 35) (hb hy d19_34) rfl rfl ?_
  refine o_iadd W10 (v := 8) (pc' := 36) (hb hy d19_35) (by decide) rfl ?_
  have c11 := ((c4.keep K5).keep K6)
  refine o_putF W10 (w81 hw) Via.refl c9 c11 (Or.inl (w82 hw)) (w10 hw) (ty := .int) (v' := (.int 8)) (by decide) rfl rfl g_a1 (Or.inl (List.mem_of_getElem? (i := 0) rfl)) (fun _ _ => trivial) (pc' := 39) (hb hy d19_36) rfl ?_
  intro T12 h12 lo12 W12 R12
  have F12 := c9.same R12
  refine o_iloadN W12 (pc' := 40) (hb hy d19_39) rfl rfl ?_
  refine o_i2b W12 (v := 62) (pc' := 41) (hb hy d19_40) (by decide) rfl ?_
  have c13 := (c11.wr R12)
  have c14 := (((V_a2.keep K2 nin0).keep K5 nin0).keep K6 nin0)
  have c15 := ((((V_a2.keep K2 nin0).keep K5 nin0).keep K6 nin0).other R12 (Ne.symm (Exa.neArv c11 c14 (w10 hw))))
  refine o_stB W12 c15 (i := 7) (x' := (62 : Int32)) (by decide) (by decide) (by decide) (Nat.lt_of_sub_eq_succ rfl) (by decide) (vs' := [(.int x1), (.int x2), (.int x3), (.int 62), (.int x4), (.int x5), (.int x6), (.int 62), (.int 0), (.int 0), (.int 0), (.int 0), (.int 0), (.int 0), (.int 0), (.int 0)]) rfl g_a2 (Or.inl (List.mem_of_getElem? (i := 1) rfl)) (fun _ _ => trivial) (pc' := 42) (hb hy d19_41) rfl ?_
  intro T16 h16 lo16 W16 R16 V16
  refine o_goto W16 (pc' := 75) (hb hy d19_42) (by decide) rfl ?_
  refine o_aloadN W16 (pc' := 76) (hb hy d19_75) rfl rfl rfl ?_
  have c17 := (c13.wr R16)
  have c18 := (F12.other R16 (Or.inl (Exa.neArv c13 c15 (w10 hw))))
  have c19 := ((c7.other R12 (Or.inr (slot_ne (Or.inl (w26 hw)) (Or.inl (w82 hw)) (by decide) (t := (.array .byte)) (t' := .int) (by decide) (by decide)))).other R16 (Or.inl (Exa.neArv c13 c15 (w10 hw))))
  have c20 := ((((c3.keep K5 nin0).keep K6 nin0).other R12 (Or.inr (slot_ne (Or.inl (w28 hw)) (Or.inl (w82 hw)) (by decide) (t := .byte) (t' := .int) (by decide) (by decide)))).other R16 (Or.inl (Exa.neArv c13 c15 (w10 hw))))
  have c21 := (((((F_a1_maybeLatin1.keep K2 nin0).keep K5 nin0).keep K6 nin0).other R12 (Or.inr (slot_ne (Or.inl (w171 hw)) (Or.inl (w82 hw)) (by decide) (t := .boolean) (t' := .int) (by decide) (by decide)))).other R16 (Or.inl (Exa.neArv c13 c15 (w10 hw))))
  exact o_retA W16 hlk (v := (.ref a1)) hret rfl rfl (hb hy d19_76) (by decide) (by decide) ⟨c18, c19, V16, c20, c21, rfl⟩
theorem rm82 (l : Launch) (Z : State) (a0 : Array Value) (hw : ∀ d ∈ tables_1, d.before a0 Z = true) (gCS : Int32) (a1 a2 : Addr) (k_a2 : ClassId) (x1 x2 x3 x4 x5 x6 : Int32) (h0 : Heap) (O0 : Old Z Z.heap.size h0) (F_a1_count : Fld Z h0 a1 "java/lang/AbstractStringBuilder" "count" "I" (.int 7)) (E_a1 : Exa Z h0 a1 "java/lang/StringBuilder") (F_a1_value : Fld Z h0 a1 "java/lang/AbstractStringBuilder" "value" "[B" (.ref a2)) (V_a2 : Arv Z h0 a2 k_a2 .byte (16 : Int32) [(.int x1), (.int x2), (.int x3), (.int 62), (.int x4), (.int x5), (.int x6), (.int 0), (.int 0), (.int 0), (.int 0), (.int 0), (.int 0), (.int 0), (.int 0), (.int 0)] (.int 0)) (F_a1_coder : Fld Z h0 a1 "java/lang/AbstractStringBuilder" "coder" "B" (.int 0)) (SgCS : Sta Z Z.heap "java/lang/String" "COMPACT_STRINGS" "Z" (.int gCS)) (NgCS : ¬ (gCS = (0 : Int32))) (F_a1_maybeLatin1 : Fld Z h0 a1 "java/lang/AbstractStringBuilder" "maybeLatin1" "Z" (.int 0)) (g_a1 : Z.heap.size ≤ a1) (g_a2 : Z.heap.size ≤ a2) :
    CtrN l Z (⟨"java/lang/StringBuilder", "append", "(C)Ljava/lang/StringBuilder;"⟩ : MethodName) jdk_67_method_14_code 2 (some (.object "java/lang/StringBuilder")) [] (⟨2, 0, 0, 27⟩ : Room) #[(.ref a1), (.int 62)] h0 [a2, a1] (fun v h => Fld Z h a1 "java/lang/AbstractStringBuilder" "count" "I" (.int 8) ∧ Fld Z h a1 "java/lang/AbstractStringBuilder" "value" "[B" (.ref a2) ∧ Arv Z h a2 k_a2 .byte (16 : Int32) [(.int x1), (.int x2), (.int x3), (.int 62), (.int x4), (.int x5), (.int x6), (.int 62), (.int 0), (.int 0), (.int 0), (.int 0), (.int 0), (.int 0), (.int 0), (.int 0)] (.int 0) ∧ Fld Z h a1 "java/lang/AbstractStringBuilder" "coder" "B" (.int 0) ∧ Fld Z h a1 "java/lang/AbstractStringBuilder" "maybeLatin1" "Z" (.int 0) ∧ v = some (.ref a1)) := by
  refine CtrN.intro (L0 := #[.val (.ref a1), .val (.int 62)]) (plainFor_of_name pn1) O0 (own_entry rfl) ?_
  intro p e s m below meth c T0 hy hml hret hlk hnm W0
  refine o_aloadN W0 (pc' := 1) (hb hy d18_0) rfl rfl rfl ?_
  refine o_iloadN W0 (pc' := 2) (hb hy d18_1) rfl rfl ?_
  refine o_super W0 (y := (⟨"java/lang/AbstractStringBuilder", "append", "(C)Ljava/lang/AbstractStringBuilder;"⟩ : MethodName)) (by decide) (w113 hw) (w114 hw) (own_sameM (y := (⟨"java/lang/AbstractStringBuilder", "append", "(C)Ljava/lang/AbstractStringBuilder;"⟩ : MethodName)) (by decide) (w114 hw) (w138 hw)) (w68 hw) (w116 hw) (Ins.self E_a1) (argsL := [(.int 62)]) (CtrN.back (Wd := 0) W0 (rm81 l Z a0 hw gCS a1 a2 k_a2 x1 x2 x3 x4 x5 x6 h0 W0.old F_a1_count E_a1 F_a1_value V_a2 F_a1_coder SgCS NgCS g_a1 g_a2 F_a1_maybeLatin1) (w116 hw) (w19 hw) (by decide) (by decide)) (by rw [hml]; rfl) (lenOf pd19 rfl) (S := []) rfl (by exact Nat.le_of_eq rfl) (pc' := 5) (hb hy d18_2) rfl (cells' := 0) (slots' := 0) rfl rfl (by decide) (by decide) (wy := [a1, a2]) (fun _ _ _ q => ⟨q.1, q.2.1⟩) (allS ⟨g_a1, (Or.inl (List.mem_of_getElem? (i := 1) rfl))⟩ (allS ⟨g_a2, (Or.inl (List.mem_of_getElem? (i := 0) rfl))⟩ all0)) (fun _ _ => trivial) ?_
  intro v1 T1 h1 lo1 W1 K1 q1
  obtain ⟨P1_0, P1_1, P1_2, P1_3, P1_4, rfl⟩ := q1.2.2
  show Gl _ _ _ _ _ _ _ _ [(.ref a1)]
  refine o_pop W1 (pc' := 6) (hb hy d18_5) rfl rfl ?_
  refine o_aloadN W1 (pc' := 7) (hb hy d18_6) rfl rfl rfl ?_
  have c2 := (E_a1.keep K1)
  exact o_retA W1 hlk (v := (.ref a1)) hret rfl rfl (hb hy d18_7) (by decide) (by decide) ⟨P1_0, P1_1, P1_2, P1_3, P1_4, rfl⟩
theorem rm83 (l : Launch) (Z : State) (a0 : Array Value) (hw : ∀ d ∈ tables_1, d.before a0 Z = true) (gCS : Int32) (a1 a2 a3 a4 : Addr) (k_a4 : ClassId) (x1 x2 x3 : Int32) (a5 : Addr) (k_a5 : ClassId) (x4 : Int32) (h0 : Heap) (O0 : Old Z Z.heap.size h0) (F_a1_out : Fld Z h0 a1 "com/example/colophon/colophon/api/Html" "out" "Ljava/lang/StringBuilder;" (.ref a3)) (E_a3 : Exa Z h0 a3 "java/lang/StringBuilder") (SgCS : Sta Z Z.heap "java/lang/String" "COMPACT_STRINGS" "Z" (.int gCS)) (NgCS : ¬ (gCS = (0 : Int32))) (F_a3_count : Fld Z h0 a3 "java/lang/AbstractStringBuilder" "count" "I" (.int 4)) (F_a3_value : Fld Z h0 a3 "java/lang/AbstractStringBuilder" "value" "[B" (.ref a4)) (V_a4 : Arv Z h0 a4 k_a4 .byte (16 : Int32) [(.int x1), (.int x2), (.int x3), (.int 62), (.int 0), (.int 0), (.int 0), (.int 0), (.int 0), (.int 0), (.int 0), (.int 0), (.int 0), (.int 0), (.int 0), (.int 0)] (.int 0)) (F_a3_coder : Fld Z h0 a3 "java/lang/AbstractStringBuilder" "coder" "B" (.int 0)) (F_a3_maybeLatin1 : Fld Z h0 a3 "java/lang/AbstractStringBuilder" "maybeLatin1" "Z" (.int 0)) (g_a4 : Z.heap.size ≤ a4) (g_a3 : Z.heap.size ≤ a3) (E_a2 : Exa Z h0 a2 "java/lang/String") (F_a2_value : Fld Z h0 a2 "java/lang/String" "value" "[B" (.ref a5)) (V_a5 : Arv Z h0 a5 k_a5 .byte (1 : Int32) [(.int (StrChars.lo8 x4))] (.int 0)) (ne_a4_a5 : a4 ≠ a5) (F_a2_coder : Fld Z h0 a2 "java/lang/String" "coder" "B" (.int 0)) :
    CtrW l Z consts_1 (⟨"com/example/colophon/colophon/api/Html", "close", "(Ljava/lang/String;)Lcom/example/colophon/colophon/api/Html;"⟩ : MethodName) prog_5_method_3_code 2 (some (.object "com/example/colophon/colophon/api/Html")) [] (⟨5, 2, 12, 83⟩ : Room) #[(.ref a1), (.ref a2)] h0 [a4, a3] (fun v h => Fld Z h a3 "java/lang/AbstractStringBuilder" "count" "I" (.int 8) ∧ Fld Z h a3 "java/lang/AbstractStringBuilder" "value" "[B" (.ref a4) ∧ Arv Z h a4 k_a4 .byte (16 : Int32) [(.int x1), (.int x2), (.int x3), (.int 62), (.int (StrChars.lo8 (60 : Int32))), (.int (StrChars.lo8 (47 : Int32))), (.int (StrChars.lo8 x4)), (.int 62), (.int 0), (.int 0), (.int 0), (.int 0), (.int 0), (.int 0), (.int 0), (.int 0)] (.int 0) ∧ Fld Z h a3 "java/lang/AbstractStringBuilder" "coder" "B" (.int 0) ∧ Fld Z h a3 "java/lang/AbstractStringBuilder" "maybeLatin1" "Z" (.int 0) ∧ v = some (.ref a1)) := by
  refine CtrW.intro (L0 := #[.val (.ref a1), .val (.ref a2)]) (plainFor_of_name pn2) O0 (own_entry rfl) ?_
  intro p e s m below meth c T0 V0 hy hml hret hlk hnm W0
  refine o_aloadN W0 (pc' := 1) (hb hy d9_0) rfl rfl rfl ?_
  refine o_getF W0 (w29 hw) Via.refl F_a1_out (pc' := 4) (hb hy d9_1) rfl ?_
  intro T1 W1
  refine o_ldcR W1 (w58 hw) (own_wS hw) (own_EL hw) (by simp [consts_1]) (pc' := 6) (hb hy d9_4) rfl (n := 8) (by decide) (by decide) (cells' := 2) (slots' := 12) rfl rfl (by decide) (by decide) (vs := [(.int (StrChars.lo8 (60 : Int32))), (.int (StrChars.lo8 (47 : Int32)))]) (z := (2 : Int32)) ⟨by decide, by decide⟩ (by decide) (by decide) ?_
  intro s2 T2 h2 V2 t2 k2 W2 E2 C2 X2 Fc2 Fv2 A2 ns2
  have c3 := (E_a3.ext E2)
  have c4 := (F_a3_count.ext E2)
  have c5 := (F_a3_value.ext E2)
  have c6 := (V_a4.ext E2)
  have c7 := (F_a3_coder.ext E2)
  have c8 := (F_a3_maybeLatin1.ext E2)
  refine o_virtual W2 (y := (⟨"java/lang/StringBuilder", "append", "(Ljava/lang/String;)Ljava/lang/StringBuilder;"⟩ : MethodName)) (z := (⟨"java/lang/StringBuilder", "append", "(Ljava/lang/String;)Ljava/lang/StringBuilder;"⟩ : MethodName)) (w61 hw) (w62 hw) (o_nf W2 rfl (w64 hw)) (w64 hw) (w63 hw) (by decide) c3 (argsL := [(.ref s2)]) (CtrN.back (Wd := 0) W2 (rm74 l Z a0 hw gCS a3 s2 t2 k2 a4 k_a4 x1 x2 x3 h2 W2.old X2 Fv2 A2 SgCS NgCS Fc2 c4 c3 c5 c6 c7 c8 g_a4 g_a3) (w65 hw) (w11 hw) (by decide) (by decide)) (by rw [hml]; rfl) (lenOf pd17 rfl) (S := []) rfl (by exact Nat.le_of_eq rfl) (pc' := 9) (hb hy d9_6) rfl (cells' := 2) (slots' := 12) rfl rfl (by decide) (by decide) (wy := [a3, a4]) (fun _ _ _ q => ⟨q.1, q.2.1⟩) (allS ⟨g_a3, (Or.inl (List.mem_of_getElem? (i := 1) rfl))⟩ (allS ⟨g_a4, (Or.inl (List.mem_of_getElem? (i := 0) rfl))⟩ all0)) (fun _ K => IW.keep K (sfS (Safe.exa W2.al c3 (by decide) (by decide)) (sfS (own_safeB W2.2.2.2.1 (n := 16) (by decide) (own_EL16 hw) c6) sf0)) W2.inv) ?_
  intro v9 T9 h9 lo9 W9 K9 q9
  obtain ⟨P9_0, P9_1, P9_2, P9_3, P9_4, rfl⟩ := q9.2.2
  show Gl _ _ _ _ _ _ _ _ [(.ref a3)]
  refine o_aloadN W9 (pc' := 10) (hb hy d9_9) rfl rfl rfl ?_
  have c10 := ((E_a2.ext E2).keep K9)
  have c11 := (E_a2.ext E2)
  have c12 := (c3.keep K9)
  have c13 := ((F_a2_value.ext E2).keep K9 (ninS (Exa.ne c11 c3 (by decide)) (ninS (Exa.neArv c11 c6 (w40 hw)) nin0)))
  have c14 := (V_a5.ext E2)
  have c15 := ((V_a5.ext E2).keep K9 (ninS (Ne.symm (Exa.neArv c3 c14 (w10 hw))) (ninS (Ne.symm ne_a4_a5) nin0)))
  have c16 := ((F_a2_coder.ext E2).keep K9 (ninS (Exa.ne c11 c3 (by decide)) (ninS (Exa.neArv c11 c6 (w40 hw)) nin0)))
  refine o_virtual W9 (y := (⟨"java/lang/StringBuilder", "append", "(Ljava/lang/String;)Ljava/lang/StringBuilder;"⟩ : MethodName)) (z := (⟨"java/lang/StringBuilder", "append", "(Ljava/lang/String;)Ljava/lang/StringBuilder;"⟩ : MethodName)) (w61 hw) (w62 hw) (o_nf W9 rfl (w64 hw)) (w64 hw) (w63 hw) (by decide) c12 (argsL := [(.ref a2)]) (CtrN.back (Wd := 0) W9 (rm79 l Z a0 hw gCS a3 a2 a5 k_a5 x4 a4 k_a4 x1 x2 x3 (StrChars.lo8 (60 : Int32)) (StrChars.lo8 (47 : Int32)) h9 W9.old c10 c13 c15 SgCS NgCS c16 P9_0 c12 P9_1 P9_2 P9_3 P9_4 g_a4 g_a3) (w65 hw) (w11 hw) (by decide) (by decide)) (by rw [hml]; rfl) (lenOf pd17 rfl) (S := []) rfl (by exact Nat.le_of_eq rfl) (pc' := 13) (hb hy d9_10) rfl (cells' := 2) (slots' := 12) rfl rfl (by decide) (by decide) (wy := [a3, a4]) (fun _ _ _ q => ⟨q.1, q.2.1⟩) (allS ⟨g_a3, (Or.inl (List.mem_of_getElem? (i := 1) rfl))⟩ (allS ⟨g_a4, (Or.inl (List.mem_of_getElem? (i := 0) rfl))⟩ all0)) (fun _ K => IW.keep K (sfS (Safe.exa W9.al c12 (by decide) (by decide)) (sfS (own_safeB W9.2.2.2.1 (n := 16) (by decide) (own_EL16 hw) P9_2) sf0)) W9.inv) ?_
  intro v17 T17 h17 lo17 W17 K17 q17
  obtain ⟨P17_0, P17_1, P17_2, P17_3, P17_4, rfl⟩ := q17.2.2
  show Gl _ _ _ _ _ _ _ _ [(.ref a3)]
  refine o_bipush W17 (v := 62) (pc' := 15) (hb hy d9_13) (by decide) rfl ?_
  have c18 := (c12.keep K17)
  refine o_virtual W17 (y := (⟨"java/lang/StringBuilder", "append", "(C)Ljava/lang/StringBuilder;"⟩ : MethodName)) (z := (⟨"java/lang/StringBuilder", "append", "(C)Ljava/lang/StringBuilder;"⟩ : MethodName)) (w108 hw) (w109 hw) (o_nf W17 rfl (w111 hw)) (w111 hw) (w110 hw) (by decide) c18 (argsL := [(.int 62)]) (CtrN.back (Wd := 0) W17 (rm82 l Z a0 hw gCS a3 a4 k_a4 x1 x2 x3 (StrChars.lo8 (60 : Int32)) (StrChars.lo8 (47 : Int32)) (StrChars.lo8 x4) h17 W17.old P17_0 c18 P17_1 P17_2 P17_3 SgCS NgCS P17_4 g_a3 g_a4) (w112 hw) (w11 hw) (by decide) (by decide)) (by rw [hml]; rfl) (lenOf pd20 rfl) (S := []) rfl (by exact Nat.le_of_eq rfl) (pc' := 18) (hb hy d9_15) rfl (cells' := 2) (slots' := 12) rfl rfl (by decide) (by decide) (wy := [a4, a3]) (fun _ _ _ q => ⟨q.1, q.2.1⟩) (allS ⟨g_a4, (Or.inl (List.mem_of_getElem? (i := 0) rfl))⟩ (allS ⟨g_a3, (Or.inl (List.mem_of_getElem? (i := 1) rfl))⟩ all0)) (fun _ K => IW.keep K (sfS (own_safeB W17.2.2.2.1 (n := 16) (by decide) (own_EL16 hw) P17_2) (sfS (Safe.exa W17.al c18 (by decide) (by decide)) sf0)) W17.inv) ?_
  intro v19 T19 h19 lo19 W19 K19 q19
  obtain ⟨P19_0, P19_1, P19_2, P19_3, P19_4, rfl⟩ := q19.2.2
  show Gl _ _ _ _ _ _ _ _ [(.ref a3)]
  refine o_pop W19 (pc' := 19) (hb hy d9_18) rfl rfl ?_
  refine o_aloadN W19 (pc' := 20) (hb hy d9_19) rfl rfl rfl ?_
  have c20 := (c18.keep K19)
  exact o_retAW W19 (own_EL hw) hlk (v := (.ref a1)) hret rfl rfl (hb hy d9_20) (by decide) (by decide) ⟨P19_0, P19_1, P19_2, P19_3, P19_4, rfl⟩
theorem rm84 (l : Launch) (Z : State) (a0 : Array Value) (hw : ∀ d ∈ tables_1, d.before a0 Z = true) (a1 : Addr) (x1 : Int32) (k_a1 : ClassId) (h0 : Heap) (O0 : Old Z Z.heap.size h0) (V_a1 : Arv Z h0 a1 k_a1 .char (8 : Int32) [(.int 0), (.int 0), (.int 0), (.int 0), (.int 0), (.int 0), (.int 0), (.int 0)] (.int 0)) (g_a1 : Z.heap.size ≤ a1) (hu3 : own_b x1) :
    CtrN l Z (⟨"com/example/colophon/colophon/api/HtmlAppendPinLaw", "put", "([CIC)V"⟩ : MethodName) method_3_code 3 none [] (⟨0, 0, 0, 0⟩ : Room) #[(.ref a1), (.int 0), (.int x1)] h0 [a1] (fun v h => Arv Z h a1 k_a1 .char (8 : Int32) [(.int 60), (.int 47), (.int x1), (.int 62), (.int 0), (.int 0), (.int 0), (.int 0)] (.int 0) ∧ v = none) := by
  refine CtrN.intro (L0 := #[.val (.ref a1), .val (.int 0), .val (.int x1)]) (plainFor_of_name pn5) O0 (own_entry rfl) ?_
  intro p e s m below meth c T0 hy hml hret hlk hnm W0
  refine o_aloadN W0 (pc' := 1) (hb hy d30_0) rfl rfl rfl ?_
  refine o_iloadN W0 (pc' := 2) (hb hy d30_1) rfl rfl ?_
  refine o_bipush W0 (v := 60) (pc' := 4) (hb hy d30_2) (by decide) rfl ?_
  refine o_stC W0 V_a1 (i := 0) (x' := (60 : Int32)) (by decide) (by decide) (by decide) (Nat.lt_of_sub_eq_succ rfl) (by decide) (vs' := [(.int 60), (.int 0), (.int 0), (.int 0), (.int 0), (.int 0), (.int 0), (.int 0)]) rfl g_a1 (Or.inl (List.mem_of_getElem? (i := 0) rfl)) (fun _ _ => trivial) (pc' := 5) (hb hy d30_4) rfl ?_
  intro T1 h1 lo1 W1 R1 V1
  refine o_aloadN W1 (pc' := 6) (hb hy d30_5) rfl rfl rfl ?_
  refine o_iloadN W1 (pc' := 7) (hb hy d30_6) rfl rfl ?_
  refine o_iconst W1 (v := 1) (pc' := 8) (hb hy d30_7) rfl rfl ?_
  refine o_iadd W1 (v := 1) (pc' := 9) (hb hy d30_8) (by decide) rfl ?_
  refine o_bipush W1 (v := 47) (pc' := 11) (hb hy d30_9) (by decide) rfl ?_
  refine o_stC W1 V1 (i := 1) (x' := (47 : Int32)) (by decide) (by decide) (by decide) (Nat.lt_of_sub_eq_succ rfl) (by decide) (vs' := [(.int 60), (.int 47), (.int 0), (.int 0), (.int 0), (.int 0), (.int 0), (.int 0)]) rfl g_a1 (Or.inl (List.mem_of_getElem? (i := 0) rfl)) (fun _ _ => trivial) (pc' := 12) (hb hy d30_11) rfl ?_
  intro T2 h2 lo2 W2 R2 V2
  refine o_aloadN W2 (pc' := 13) (hb hy d30_12) rfl rfl rfl ?_
  refine o_iloadN W2 (pc' := 14) (hb hy d30_13) rfl rfl ?_
  refine o_iconst W2 (v := 2) (pc' := 15) (hb hy d30_14) rfl rfl ?_
  refine o_iadd W2 (v := 2) (pc' := 16) (hb hy d30_15) (by decide) rfl ?_
  refine o_iloadN W2 (pc' := 17) (hb hy d30_16) rfl rfl ?_
  refine o_stC W2 V2 (i := 2) (x' := x1) (by decide) (by decide) (by decide) (Nat.lt_of_sub_eq_succ rfl) (own_i2c hu3) (vs' := [(.int 60), (.int 47), (.int x1), (.int 0), (.int 0), (.int 0), (.int 0), (.int 0)]) rfl g_a1 (Or.inl (List.mem_of_getElem? (i := 0) rfl)) (fun _ _ => trivial) (pc' := 18) (hb hy d30_17) rfl ?_
  intro T4 h4 lo4 W4 R4 V4
  refine o_aloadN W4 (pc' := 19) (hb hy d30_18) rfl rfl rfl ?_
  refine o_iloadN W4 (pc' := 20) (hb hy d30_19) rfl rfl ?_
  refine o_iconst W4 (v := 3) (pc' := 21) (hb hy d30_20) rfl rfl ?_
  refine o_iadd W4 (v := 3) (pc' := 22) (hb hy d30_21) (by decide) rfl ?_
  refine o_bipush W4 (v := 62) (pc' := 24) (hb hy d30_22) (by decide) rfl ?_
  refine o_stC W4 V4 (i := 3) (x' := (62 : Int32)) (by decide) (by decide) (by decide) (Nat.lt_of_sub_eq_succ rfl) (by decide) (vs' := [(.int 60), (.int 47), (.int x1), (.int 62), (.int 0), (.int 0), (.int 0), (.int 0)]) rfl g_a1 (Or.inl (List.mem_of_getElem? (i := 0) rfl)) (fun _ _ => trivial) (pc' := 25) (hb hy d30_24) rfl ?_
  intro T5 h5 lo5 W5 R5 V5
  exact o_ret0 W5 hlk hret (hb hy d30_25) (by decide) (by decide) ⟨V5, rfl⟩
theorem rm85 (l : Launch) (Z : State) (a0 : Array Value) (hw : ∀ d ∈ tables_1, d.before a0 Z = true) (a1 : Addr) (x1 : Int32) (k_a1 : ClassId) (x2 : Int32) (h0 : Heap) (O0 : Old Z Z.heap.size h0) (V_a1 : Arv Z h0 a1 k_a1 .char (8 : Int32) [(.int 60), (.int 47), (.int x2), (.int 62), (.int 0), (.int 0), (.int 0), (.int 0)] (.int 0)) (g_a1 : Z.heap.size ≤ a1) (hu3 : own_b x1) :
    CtrN l Z (⟨"com/example/colophon/colophon/api/HtmlAppendPinLaw", "put", "([CIC)V"⟩ : MethodName) method_3_code 3 none [] (⟨0, 0, 0, 0⟩ : Room) #[(.ref a1), (.int 4), (.int x1)] h0 [a1] (fun v h => Arv Z h a1 k_a1 .char (8 : Int32) [(.int 60), (.int 47), (.int x2), (.int 62), (.int 60), (.int 47), (.int x1), (.int 62)] (.int 0) ∧ v = none) := by
  refine CtrN.intro (L0 := #[.val (.ref a1), .val (.int 4), .val (.int x1)]) (plainFor_of_name pn5) O0 (own_entry rfl) ?_
  intro p e s m below meth c T0 hy hml hret hlk hnm W0
  refine o_aloadN W0 (pc' := 1) (hb hy d30_0) rfl rfl rfl ?_
  refine o_iloadN W0 (pc' := 2) (hb hy d30_1) rfl rfl ?_
  refine o_bipush W0 (v := 60) (pc' := 4) (hb hy d30_2) (by decide) rfl ?_
  refine o_stC W0 V_a1 (i := 4) (x' := (60 : Int32)) (by decide) (by decide) (by decide) (Nat.lt_of_sub_eq_succ rfl) (by decide) (vs' := [(.int 60), (.int 47), (.int x2), (.int 62), (.int 60), (.int 0), (.int 0), (.int 0)]) rfl g_a1 (Or.inl (List.mem_of_getElem? (i := 0) rfl)) (fun _ _ => trivial) (pc' := 5) (hb hy d30_4) rfl ?_
  intro T1 h1 lo1 W1 R1 V1
  refine o_aloadN W1 (pc' := 6) (hb hy d30_5) rfl rfl rfl ?_
  refine o_iloadN W1 (pc' := 7) (hb hy d30_6) rfl rfl ?_
  refine o_iconst W1 (v := 1) (pc' := 8) (hb hy d30_7) rfl rfl ?_
  refine o_iadd W1 (v := 5) (pc' := 9) (hb hy d30_8) (by decide) rfl ?_
  refine o_bipush W1 (v := 47) (pc' := 11) (hb hy d30_9) (by decide) rfl ?_
  refine o_stC W1 V1 (i := 5) (x' := (47 : Int32)) (by decide) (by decide) (by decide) (Nat.lt_of_sub_eq_succ rfl) (by decide) (vs' := [(.int 60), (.int 47), (.int x2), (.int 62), (.int 60), (.int 47), (.int 0), (.int 0)]) rfl g_a1 (Or.inl (List.mem_of_getElem? (i := 0) rfl)) (fun _ _ => trivial) (pc' := 12) (hb hy d30_11) rfl ?_
  intro T2 h2 lo2 W2 R2 V2
  refine o_aloadN W2 (pc' := 13) (hb hy d30_12) rfl rfl rfl ?_
  refine o_iloadN W2 (pc' := 14) (hb hy d30_13) rfl rfl ?_
  refine o_iconst W2 (v := 2) (pc' := 15) (hb hy d30_14) rfl rfl ?_
  refine o_iadd W2 (v := 6) (pc' := 16) (hb hy d30_15) (by decide) rfl ?_
  refine o_iloadN W2 (pc' := 17) (hb hy d30_16) rfl rfl ?_
  refine o_stC W2 V2 (i := 6) (x' := x1) (by decide) (by decide) (by decide) (Nat.lt_of_sub_eq_succ rfl) (own_i2c hu3) (vs' := [(.int 60), (.int 47), (.int x2), (.int 62), (.int 60), (.int 47), (.int x1), (.int 0)]) rfl g_a1 (Or.inl (List.mem_of_getElem? (i := 0) rfl)) (fun _ _ => trivial) (pc' := 18) (hb hy d30_17) rfl ?_
  intro T4 h4 lo4 W4 R4 V4
  refine o_aloadN W4 (pc' := 19) (hb hy d30_18) rfl rfl rfl ?_
  refine o_iloadN W4 (pc' := 20) (hb hy d30_19) rfl rfl ?_
  refine o_iconst W4 (v := 3) (pc' := 21) (hb hy d30_20) rfl rfl ?_
  refine o_iadd W4 (v := 7) (pc' := 22) (hb hy d30_21) (by decide) rfl ?_
  refine o_bipush W4 (v := 62) (pc' := 24) (hb hy d30_22) (by decide) rfl ?_
  refine o_stC W4 V4 (i := 7) (x' := (62 : Int32)) (by decide) (by decide) (by decide) (Nat.lt_of_sub_eq_succ rfl) (by decide) (vs' := [(.int 60), (.int 47), (.int x2), (.int 62), (.int 60), (.int 47), (.int x1), (.int 62)]) rfl g_a1 (Or.inl (List.mem_of_getElem? (i := 0) rfl)) (fun _ _ => trivial) (pc' := 25) (hb hy d30_24) rfl ?_
  intro T5 h5 lo5 W5 R5 V5
  exact o_ret0 W5 hlk hret (hb hy d30_25) (by decide) (by decide) ⟨V5, rfl⟩
theorem rm86 (l : Launch) (Z : State) (a0 : Array Value) (hw : ∀ d ∈ tables_1, d.before a0 Z = true) (a1 : Addr) (h0 : Heap) (O0 : Old Z Z.heap.size h0) (F_a1_count : Fld Z h0 a1 "java/lang/AbstractStringBuilder" "count" "I" (.int 8)) :
    CtrN l Z (⟨"java/lang/AbstractStringBuilder", "length", "()I"⟩ : MethodName) jdk_68_method_6_code 1 (some .int) [] (⟨0, 0, 0, 0⟩ : Room) #[(.ref a1)] h0 [] (fun v h => v = some (.int 8)) := by
  refine CtrN.intro (L0 := #[.val (.ref a1)]) (plainFor_of_name pn0) O0 (own_entry rfl) ?_
  intro p e s m below meth c T0 hy hml hret hlk hnm W0
  refine o_aloadN W0 (pc' := 1) (hb hy d26_0) rfl rfl rfl ?_
  refine o_getF W0 (w81 hw) Via.refl F_a1_count (pc' := 4) (hb hy d26_1) rfl ?_
  intro T1 W1
  exact o_retI W1 hlk hret (hb hy d26_4) (by decide) (by decide) rfl
theorem rm87 (l : Launch) (Z : State) (a0 : Array Value) (hw : ∀ d ∈ tables_1, d.before a0 Z = true) (a1 : Addr) (h0 : Heap) (O0 : Old Z Z.heap.size h0) (F_a1_count : Fld Z h0 a1 "java/lang/AbstractStringBuilder" "count" "I" (.int 8)) (E_a1 : Exa Z h0 a1 "java/lang/StringBuilder") :
    CtrN l Z (⟨"java/lang/StringBuilder", "length", "()I"⟩ : MethodName) jdk_67_method_93_code 1 (some .int) [] (⟨1, 0, 0, 12⟩ : Room) #[(.ref a1)] h0 [] (fun v h => v = some (.int 8)) := by
  refine CtrN.intro (L0 := #[.val (.ref a1)]) (plainFor_of_name pn1) O0 (own_entry rfl) ?_
  intro p e s m below meth c T0 hy hml hret hlk hnm W0
  refine o_aloadN W0 (pc' := 1) (hb hy d25_0) rfl rfl rfl ?_
  refine o_super W0 (y := (⟨"java/lang/AbstractStringBuilder", "length", "()I"⟩ : MethodName)) (by decide) (w152 hw) (w148 hw) (own_sameM (y := (⟨"java/lang/AbstractStringBuilder", "length", "()I"⟩ : MethodName)) (by decide) (w148 hw) (w138 hw)) (w68 hw) (w153 hw) (Ins.self E_a1) (argsL := []) (CtrN.back (Wd := 0) W0 (rm86 l Z a0 hw a1 h0 W0.old F_a1_count) (w153 hw) (w19 hw) (by decide) (by decide)) (by rw [hml]; rfl) (lenOf pd2 rfl) (S := []) rfl (by exact Nat.le_of_eq rfl) (pc' := 4) (hb hy d25_1) rfl (cells' := 0) (slots' := 0) rfl rfl (by decide) (by decide) (wy := []) (fun _ _ _ q => ⟨q.1, q.2.1⟩) all0 (fun _ _ => trivial) ?_
  intro v1 T1 h1 lo1 W1 K1 q1
  obtain rfl := q1.2.2
  show Gl _ _ _ _ _ _ _ _ [(.int 8)]
  exact o_retI W1 hlk hret (hb hy d25_4) (by decide) (by decide) rfl
theorem rm88 (l : Launch) (Z : State) (a0 : Array Value) (hw : ∀ d ∈ tables_1, d.before a0 Z = true)  (h0 : Heap) (O0 : Old Z Z.heap.size h0) :
    CtrN l Z (⟨"java/util/Arrays", "checkLength", "(II)V"⟩ : MethodName) jdk_65_method_131_code 2 none [] (⟨0, 0, 0, 0⟩ : Room) #[(.int 0), (.int 8)] h0 [] (fun v h => v = none) := by
  refine CtrN.intro (L0 := #[.val (.int 0), .val (.int 8)]) (plainFor_of_name pn6) O0 (own_entry rfl) ?_
  intro p e s m below meth c T0 hy hml hret hlk hnm W0
  refine o_iloadN W0 (pc' := 1) (hb hy d38_0) rfl rfl ?_
  refine o_iloadN W0 (pc' := 2) (hb hy d38_1) rfl rfl ?_
  refine o_icmpY W0 (pc' := 37) (hb hy d38_2) (XT.ii_ge_t (by decide)) (by decide) rfl ?_
  exact o_ret0 W0 hlk hret (hb hy d38_37) (by decide) (by decide) rfl
theorem rm89 (l : Launch) (Z : State) (a0 : Array Value) (hw : ∀ d ∈ tables_1, d.before a0 Z = true)  (h0 : Heap) (O0 : Old Z Z.heap.size h0) :
    CtrN l Z (⟨"java/lang/Math", "min", "(II)I"⟩ : MethodName) jdk_29_method_69_code 2 (some .int) [] (⟨0, 0, 0, 0⟩ : Room) #[(.int 16), (.int 8)] h0 [] (fun v h => v = some (.int 8)) := by
  refine CtrN.intro (L0 := #[.val (.int 16), .val (.int 8)]) (Jvm.Free.JP.mathPlain rfl (by decide +kernel)) O0 (own_entry rfl) ?_
  intro p e s m below meth c T0 hy hml hret hlk hnm W0
  refine o_iloadN W0 (pc' := 1) (hb hy d39_0) rfl rfl ?_
  refine o_iloadN W0 (pc' := 2) (hb hy d39_1) rfl rfl ?_
  refine o_icmpY W0 (pc' := 9) (hb hy d39_2) (XT.ii_gt_t (by decide)) (by decide) rfl ?_
  refine o_iloadN W0 (pc' := 10) (hb hy d39_9) rfl rfl ?_
  exact o_retI W0 hlk hret (hb hy d39_10) (by decide) (by decide) rfl
theorem rm90 (l : Launch) (Z : State) (a0 : Array Value) (hw : ∀ d ∈ tables_1, d.before a0 Z = true) (a1 : Addr) (k_a1 : ClassId) (x1 x2 x3 x4 : Int32) (h0 : Heap) (O0 : Old Z Z.heap.size h0) (V_a1 : Arv Z h0 a1 k_a1 .byte (16 : Int32) [(.int x1), (.int x2), (.int x3), (.int 62), (.int x1), (.int x2), (.int x4), (.int 62), (.int 0), (.int 0), (.int 0), (.int 0), (.int 0), (.int 0), (.int 0), (.int 0)] (.int 0)) :
    CtrN l Z (⟨"java/util/Arrays", "copyOfRangeByte", "([BII)[B"⟩ : MethodName) jdk_65_method_133_code 5 (some (.array .byte)) [] (⟨1, 1, 8, 27⟩ : Room) #[(.ref a1), (.int 0), (.int 8)] h0 [] (fun v h => ∃ r1 : Addr, ∃ r2 : ClassId, h0.size ≤ r1 ∧ Arv Z h r1 r2 .byte (8 : Int32) [(.int x1), (.int x2), (.int x3), (.int 62), (.int x1), (.int x2), (.int x4), (.int 62)] (.int 0) ∧ v = some (.ref r1)) := by
  refine CtrN.intro (L0 := #[.val (.ref a1), .val (.int 0), .val (.int 8), .unset, .unset]) (plainFor_of_name pn6) O0 (own_entry rfl) ?_
  intro p e s m below meth c T0 hy hml hret hlk hnm W0
  refine o_iloadN W0 (pc' := 1) (hb hy d37_0) rfl rfl ?_
  refine o_iloadN W0 (pc' := 2) (hb hy d37_1) rfl rfl ?_
  refine o_static W0 (y := (⟨"java/util/Arrays", "checkLength", "(II)V"⟩ : MethodName)) (w208 hw) (w209 hw) (w203 hw) (w210 hw) (by decide) (argsL := [(.int 0), (.int 8)]) (CtrN.back (Wd := 0) W0 (rm88 l Z a0 hw  h0 W0.old ) (w210 hw) (w203 hw) (by decide) (by decide)) (by rw [hml]; rfl) (lenOf pd24 rfl) (S := []) rfl (by exact Nat.le_of_eq rfl) (pc' := 5) (hb hy d37_2) rfl (cells' := 0) (slots' := 0) rfl rfl (by decide) (by decide) (wy := []) (fun _ _ _ q => ⟨q.1, q.2.1⟩) all0 (fun _ _ => trivial) ?_
  intro v1 T1 h1 lo1 W1 K1 q1
  obtain rfl := q1.2.2
  show Gl _ _ _ _ _ _ _ _ []
  refine o_iloadN W1 (pc' := 6) (hb hy d37_5) rfl rfl ?_
  refine o_iloadN W1 (pc' := 7) (hb hy d37_6) rfl rfl ?_
  refine o_isub W1 (v := 8) (pc' := 8) (hb hy d37_7) (by decide) rfl ?_
  refine o_istoreN W1 (L' := #[.val (.ref a1), .val (.int 0), .val (.int 8), .val (.int 8), .unset]) (pc' := 9) (hb hy d37_8) rfl rfl ?_
  refine o_iloadN W1 (pc' := 10) (hb hy d37_9) rfl rfl ?_
  refine o_newP W1 (aty := .byte) (w24 hw) (fun _ _ => trivial) (by decide) (cap := 8) (by decide) (by decide) (pc' := 12) (hb hy d37_10) rfl (cells' := 1) (slots' := 8) rfl rfl (by decide) (by decide) (vs := [(.int 0), (.int 0), (.int 0), (.int 0), (.int 0), (.int 0), (.int 0), (.int 0)]) (dv := (.int 0)) rfl rfl ?_
  intro b2 T2 h2 k2 W2 E2 ge2 gz2 gb2 V2
  refine o_astore W2 (L' := #[.val (.ref a1), .val (.int 0), .val (.int 8), .val (.int 8), .val (.ref b2)]) (pc' := 14) (hb hy d37_12) rfl rfl rfl ?_
  refine o_aloadN W2 (pc' := 15) (hb hy d37_14) rfl rfl rfl ?_
  refine o_iloadN W2 (pc' := 16) (hb hy d37_15) rfl rfl ?_
  refine o_aload W2 (pc' := 18) (hb hy d37_16) rfl rfl rfl ?_
  refine o_iconst W2 (v := 0) (pc' := 19) (hb hy d37_18) rfl rfl ?_
  refine o_aloadN W2 (pc' := 20) (hb hy d37_19) rfl rfl rfl ?_
  have c3 := ((V_a1.keep K1 nin0).ext E2)
  refine o_len W2 c3 (pc' := 21) (hb hy d37_20) rfl ?_
  refine o_iloadN W2 (pc' := 22) (hb hy d37_21) rfl rfl ?_
  refine o_isub W2 (v := 16) (pc' := 23) (hb hy d37_22) (by decide) rfl ?_
  refine o_iloadN W2 (pc' := 24) (hb hy d37_23) rfl rfl ?_
  refine o_static W2 (y := (⟨"java/lang/Math", "min", "(II)I"⟩ : MethodName)) (w211 hw) (w212 hw) (w213 hw) (w214 hw) (by decide) (argsL := [(.int 16), (.int 8)]) (CtrN.back (Wd := 4) W2 (rm89 l Z a0 hw  h2 W2.old ) (w214 hw) (w213 hw) (by decide) (by decide)) (by rw [hml]; rfl) (lenOf pd25 rfl) (S := [(.int 0), (.ref b2), (.int 0), (.ref a1)]) rfl (by exact Nat.le_of_eq rfl) (pc' := 27) (hb hy d37_24) rfl (cells' := 1) (slots' := 8) rfl rfl (by decide) (by decide) (wy := []) (fun _ _ _ q => ⟨q.1, q.2.1⟩) all0 (fun _ _ => trivial) ?_
  intro v4 T4 h4 lo4 W4 K4 q4
  obtain rfl := q4.2.2
  show Gl _ _ _ _ _ _ _ _ [(.int 8), (.int 0), (.ref b2), (.int 0), (.ref a1)]
  have c5 := (c3.keep K4 nin0)
  have c6 := (V2.keep K4 nin0)
  refine o_copy W4 (w215 hw) (w107 hw) (w105 hw) (w106 hw) c5 c6 (us := [(.int x1), (.int x2), (.int x3), (.int 62), (.int x1), (.int x2), (.int x4), (.int 62)]) (Or.inl ⟨rfl, rfl⟩) (by decide) (by decide) (by decide) (by decide) (by decide) rfl (Nat.le_of_ble_eq_true rfl) (vd' := [(.int x1), (.int x2), (.int x3), (.int 62), (.int x1), (.int x2), (.int x4), (.int 62)]) rfl gz2 (Or.inr gb2) (fun _ _ => trivial) (by rw [hml]; rfl) (pc' := 30) (hb hy d37_27) rfl (by decide) 0 (by exact Nat.le_of_eq rfl) (by decide) ?_
  intro T7 h7 lo7 W7 K7 V7
  refine o_aload W7 (pc' := 32) (hb hy d37_30) rfl rfl rfl ?_
  exact o_retA W7 hlk (v := (.ref b2)) hret rfl rfl (hb hy d37_32) (by decide) (by decide) ⟨b2, k2, gb2, V7, rfl⟩
theorem rm91 (l : Launch) (Z : State) (a0 : Array Value) (hw : ∀ d ∈ tables_1, d.before a0 Z = true) (a1 : Addr) (k_a1 : ClassId) (x1 x2 x3 x4 : Int32) (h0 : Heap) (O0 : Old Z Z.heap.size h0) (V_a1 : Arv Z h0 a1 k_a1 .byte (16 : Int32) [(.int x1), (.int x2), (.int x3), (.int 62), (.int x1), (.int x2), (.int x4), (.int 62), (.int 0), (.int 0), (.int 0), (.int 0), (.int 0), (.int 0), (.int 0), (.int 0)] (.int 0)) :
    CtrN l Z (⟨"java/util/Arrays", "copyOfRange", "([BII)[B"⟩ : MethodName) jdk_65_method_132_code 3 (some (.array .byte)) [] (⟨2, 1, 8, 43⟩ : Room) #[(.ref a1), (.int 0), (.int 8)] h0 [] (fun v h => ∃ r1 : Addr, ∃ r2 : ClassId, h0.size ≤ r1 ∧ Arv Z h r1 r2 .byte (8 : Int32) [(.int x1), (.int x2), (.int x3), (.int 62), (.int x1), (.int x2), (.int x4), (.int 62)] (.int 0) ∧ v = some (.ref r1)) := by
  refine CtrN.intro (L0 := #[.val (.ref a1), .val (.int 0), .val (.int 8)]) (plainFor_of_name pn6) O0 (own_entry rfl) ?_
  intro p e s m below meth c T0 hy hml hret hlk hnm W0
  refine o_iloadN W0 (pc' := 1) (hb hy d36_0) rfl rfl ?_
  refine o_ifN W0 (pc' := 4) (hb hy d36_1) (XT.i0_ne_f (by decide)) rfl ?_
  refine o_iloadN W0 (pc' := 5) (hb hy d36_4) rfl rfl ?_
  refine o_aloadN W0 (pc' := 6) (hb hy d36_5) rfl rfl rfl ?_
  refine o_len W0 V_a1 (pc' := 7) (hb hy d36_6) rfl ?_
  refine o_icmpN W0 (pc' := 10) (hb hy d36_7) (XT.ii_eq_f (by decide)) rfl ?_
  refine o_aloadN W0 (pc' := 11) (hb hy d36_10) rfl rfl rfl ?_
  refine o_iloadN W0 (pc' := 12) (hb hy d36_11) rfl rfl ?_
  refine o_iloadN W0 (pc' := 13) (hb hy d36_12) rfl rfl ?_
  refine o_static W0 (y := (⟨"java/util/Arrays", "copyOfRangeByte", "([BII)[B"⟩ : MethodName)) (w205 hw) (w206 hw) (w203 hw) (w207 hw) (by decide) (argsL := [(.ref a1), (.int 0), (.int 8)]) (CtrN.back (Wd := 0) W0 (rm90 l Z a0 hw a1 k_a1 x1 x2 x3 x4 h0 W0.old V_a1) (w207 hw) (w203 hw) (by decide) (by decide)) (by rw [hml]; rfl) (lenOf pd26 rfl) (S := []) rfl (by exact Nat.le_of_eq rfl) (pc' := 16) (hb hy d36_13) rfl (cells' := 1) (slots' := 8) rfl rfl (by decide) (by decide) (wy := []) (fun _ _ _ q => ⟨q.1, q.2.1⟩) all0 (fun _ _ => trivial) ?_
  intro v1 T1 h1 lo1 W1 K1 q1
  obtain ⟨r1_1, r2_1, P1_0, P1_1, rfl⟩ := q1.2.2
  show Gl _ _ _ _ _ _ _ _ [(.ref r1_1)]
  exact o_retA W1 hlk (v := (.ref r1_1)) hret rfl rfl (hb hy d36_16) (by decide) (by decide) ⟨r1_1, r2_1, (Nat.le_trans W0.keep.1 P1_0), P1_1, rfl⟩
theorem rm92 (l : Launch) (Z : State) (a0 : Array Value) (hw : ∀ d ∈ tables_1, d.before a0 Z = true) (gCS : Int32) (a1 a2 a3 : Addr) (k_a3 : ClassId) (x1 x2 x3 x4 : Int32) (h0 : Heap) (O0 : Old Z Z.heap.size h0) (E_a2 : Exa Z h0 a2 "java/lang/StringBuilder") (F_a2_value : Fld Z h0 a2 "java/lang/AbstractStringBuilder" "value" "[B" (.ref a3)) (F_a2_count : Fld Z h0 a2 "java/lang/AbstractStringBuilder" "count" "I" (.int 8)) (SgCS : Sta Z Z.heap "java/lang/String" "COMPACT_STRINGS" "Z" (.int gCS)) (NgCS : ¬ (gCS = (0 : Int32))) (F_a2_coder : Fld Z h0 a2 "java/lang/AbstractStringBuilder" "coder" "B" (.int 0)) (E_a1 : Exa Z h0 a1 "java/lang/String") (F_a1_coder : Fld Z h0 a1 "java/lang/String" "coder" "B" (.int 0)) (g_a1 : Z.heap.size ≤ a1) (V_a3 : Arv Z h0 a3 k_a3 .byte (16 : Int32) [(.int x1), (.int x2), (.int x3), (.int 62), (.int x1), (.int x2), (.int x4), (.int 62), (.int 0), (.int 0), (.int 0), (.int 0), (.int 0), (.int 0), (.int 0), (.int 0)] (.int 0)) (F_a1_value : Fld Z h0 a1 "java/lang/String" "value" "[B" .null) :
    CtrN l Z (⟨"java/lang/String", "<init>", "(Ljava/lang/AbstractStringBuilder;Ljava/lang/Void;)V"⟩ : MethodName) jdk_42_method_150_code 5 none [] (⟨3, 1, 8, 58⟩ : Room) #[(.ref a1), (.ref a2), .null] h0 [a1] (fun v h => ∃ r1 : Addr, ∃ r2 : ClassId, h0.size ≤ r1 ∧ Fld Z h a1 "java/lang/String" "coder" "B" (.int 0) ∧ Fld Z h a1 "java/lang/String" "value" "[B" (.ref r1) ∧ Arv Z h r1 r2 .byte (8 : Int32) [(.int x1), (.int x2), (.int x3), (.int 62), (.int x1), (.int x2), (.int x4), (.int 62)] (.int 0) ∧ v = none) := by
  refine CtrN.intro (L0 := #[.val (.ref a1), .val (.ref a2), .val .null, .unset, .unset]) (plainFor_of_name pn4) O0 (own_entry rfl) ?_
  intro p e s m below meth c T0 hy hml hret hlk hnm W0
  refine o_aloadN W0 (pc' := 1) (hb hy d34_0) rfl rfl rfl ?_
  refine o_initO W0 (w48 hw) (w7 hw) (w8 hw) (by rw [hml]; rfl) (pc' := 4) (hb hy d34_1) rfl (by decide) 0 (by exact Nat.le_of_eq rfl) (by decide) ?_
  intro T1 W1
  refine o_aloadN W1 (pc' := 5) (hb hy d34_4) rfl rfl rfl ?_
  refine o_virtual W1 (y := (⟨"java/lang/AbstractStringBuilder", "getValue", "()[B"⟩ : MethodName)) (z := (⟨"java/lang/AbstractStringBuilder", "getValue", "()[B"⟩ : MethodName)) (w194 hw) (w195 hw) (o_nf W1 rfl (w197 hw)) (w197 hw) (w196 hw) (by decide) E_a2 (argsL := []) (CtrN.back (Wd := 0) W1 (rm39 l Z a0 hw a2 a3 h0 W1.old F_a2_value) (w198 hw) (w19 hw) (by decide) (by decide)) (by rw [hml]; rfl) (lenOf pd23 rfl) (S := []) rfl (by exact Nat.le_of_eq rfl) (pc' := 8) (hb hy d34_5) rfl (cells' := 0) (slots' := 0) rfl rfl (by decide) (by decide) (wy := []) (fun _ _ _ q => ⟨q.1, q.2.1⟩) all0 (fun _ _ => trivial) ?_
  intro v2 T2 h2 lo2 W2 K2 q2
  obtain rfl := q2.2.2
  show Gl _ _ _ _ _ _ _ _ [(.ref a3)]
  refine o_astoreN W2 (L' := #[.val (.ref a1), .val (.ref a2), .val .null, .val (.ref a3), .unset]) (pc' := 9) (hb hy d34_8) rfl rfl rfl ?_
  refine o_aloadN W2 (pc' := 10) (hb hy d34_9) rfl rfl rfl ?_
  have c3 := (F_a2_count.keep K2 nin0)
  have c4 := (E_a2.keep K2)
  refine o_virtual W2 (y := (⟨"java/lang/AbstractStringBuilder", "length", "()I"⟩ : MethodName)) (z := (⟨"java/lang/StringBuilder", "length", "()I"⟩ : MethodName)) (w199 hw) (w147 hw) (nf_super (args := #[]) (mvT W2.2.2.2.1 (w138 hw))) (w149 hw) (w150 hw) (by decide) c4 (argsL := []) (CtrN.back (Wd := 0) W2 (rm87 l Z a0 hw a2 h2 W2.old c3 c4) (w151 hw) (w11 hw) (by decide) (by decide)) (by rw [hml]; rfl) (lenOf pd2 rfl) (S := []) rfl (by exact Nat.le_of_eq rfl) (pc' := 13) (hb hy d34_10) rfl (cells' := 0) (slots' := 0) rfl rfl (by decide) (by decide) (wy := []) (fun _ _ _ q => ⟨q.1, q.2.1⟩) all0 (fun _ _ => trivial) ?_
  intro v5 T5 h5 lo5 W5 K5 q5
  obtain rfl := q5.2.2
  show Gl _ _ _ _ _ _ _ _ [(.int 8)]
  refine o_istore W5 (L' := #[.val (.ref a1), .val (.ref a2), .val .null, .val (.ref a3), .val (.int 8)]) (pc' := 15) (hb hy d34_13) rfl rfl ?_
  refine o_aloadN W5 (pc' := 16) (hb hy d34_15) rfl rfl rfl ?_
  have c6 := ((F_a2_coder.keep K2 nin0).keep K5 nin0)
  have c7 := (c4.keep K5)
  refine o_virtual W5 (y := (⟨"java/lang/AbstractStringBuilder", "isLatin1", "()Z"⟩ : MethodName)) (z := (⟨"java/lang/AbstractStringBuilder", "isLatin1", "()Z"⟩ : MethodName)) (w200 hw) (w118 hw) (o_nf W5 rfl (w120 hw)) (w120 hw) (w119 hw) (by decide) c7 (argsL := []) (CtrN.back (Wd := 0) W5 (rm33 l Z a0 hw gCS a2 h5 W5.old SgCS NgCS c6) (w121 hw) (w19 hw) (by decide) (by decide)) (by rw [hml]; rfl) (lenOf pd18 rfl) (S := []) rfl (by exact Nat.le_of_eq rfl) (pc' := 19) (hb hy d34_16) rfl (cells' := 0) (slots' := 0) rfl rfl (by decide) (by decide) (wy := []) (fun _ _ _ q => ⟨q.1, q.2.1⟩) all0 (fun _ _ => trivial) ?_
  intro v8 T8 h8 lo8 W8 K8 q8
  obtain rfl := q8.2.2
  show Gl _ _ _ _ _ _ _ _ [(.int 1)]
  refine o_ifN W8 (pc' := 22) (hb hy d34_19) (XT.i0_eq_f (by decide)) rfl ?_
  refine o_aloadN W8 (pc' := 23) (hb hy d34_22) rfl rfl rfl ?_
  refine o_iconst W8 (v := 0) (pc' := 24) (hb hy d34_23) rfl rfl ?_
  have c9 := (((E_a1.keep K2).keep K5).keep K8)
  have c10 := (((F_a1_coder.keep K2 nin0).keep K5 nin0).keep K8 nin0)
  refine o_putF W8 (w51 hw) Via.refl c10 c9 (Or.inr ⟨(w52 hw), rfl, hnm⟩) (w40 hw) (ty := .byte) (v' := (.int 0)) (by decide) rfl (by decide) g_a1 (Or.inl (List.mem_of_getElem? (i := 0) rfl)) (fun _ _ => trivial) (pc' := 27) (hb hy d34_24) rfl ?_
  intro T11 h11 lo11 W11 R11
  have F11 := c10.same R11
  refine o_aloadN W11 (pc' := 28) (hb hy d34_27) rfl rfl rfl ?_
  refine o_aloadN W11 (pc' := 29) (hb hy d34_28) rfl rfl rfl ?_
  refine o_iconst W11 (v := 0) (pc' := 30) (hb hy d34_29) rfl rfl ?_
  refine o_iload W11 (pc' := 32) (hb hy d34_30) rfl rfl ?_
  have c12 := (c9.wr R11)
  have c13 := (((V_a3.keep K2 nin0).keep K5 nin0).keep K8 nin0)
  have c14 := ((((V_a3.keep K2 nin0).keep K5 nin0).keep K8 nin0).other R11 (Ne.symm (Exa.neArv c9 c13 (w40 hw))))
  refine o_static W11 (y := (⟨"java/util/Arrays", "copyOfRange", "([BII)[B"⟩ : MethodName)) (w201 hw) (w202 hw) (w203 hw) (w204 hw) (by decide) (argsL := [(.ref a3), (.int 0), (.int 8)]) (CtrN.back (Wd := 1) W11 (rm91 l Z a0 hw a3 k_a3 x1 x2 x3 x4 h11 W11.old c14) (w204 hw) (w203 hw) (by decide) (by decide)) (by rw [hml]; rfl) (lenOf pd26 rfl) (S := [(.ref a1)]) rfl (by exact Nat.le_of_eq rfl) (pc' := 35) (hb hy d34_32) rfl (cells' := 1) (slots' := 8) rfl rfl (by decide) (by decide) (wy := []) (fun _ _ _ q => ⟨q.1, q.2.1⟩) all0 (fun _ _ => trivial) ?_
  intro v15 T15 h15 lo15 W15 K15 q15
  obtain ⟨r1_15, r2_15, P15_0, P15_1, rfl⟩ := q15.2.2
  show Gl _ _ _ _ _ _ _ _ [(.ref r1_15), (.ref a1)]
  have c16 := (c12.keep K15)
  have c17 := (((((F_a1_value.keep K2 nin0).keep K5 nin0).keep K8 nin0).other R11 (Or.inr (slot_ne (Or.inr (w50 hw)) (Or.inr (w52 hw)) (by decide) (t := (.array .byte)) (t' := .byte) (by decide) (by decide)))).keep K15 nin0)
  refine o_putF W15 (w49 hw) Via.refl c17 c16 (Or.inr ⟨(w50 hw), rfl, hnm⟩) (w40 hw) (ty := (.array .byte)) (v' := (.ref r1_15)) (by decide) rfl rfl g_a1 (Or.inl (List.mem_of_getElem? (i := 0) rfl)) (fun _ _ => trivial) (pc' := 38) (hb hy d34_35) rfl ?_
  intro T18 h18 lo18 W18 R18
  have F18 := c17.same R18
  refine o_goto W18 (pc' := 97) (hb hy d34_38) (by decide) rfl ?_
  have c19 := ((F11.keep K15 nin0).other R18 (Or.inr (slot_ne (Or.inr (w52 hw)) (Or.inr (w50 hw)) (by decide) (t := .byte) (t' := (.array .byte)) (by decide) (by decide))))
  have c20 := (c16.wr R18)
  have c21 := (P15_1.other R18 (own_ne' c12.lt P15_0))
  exact o_ret0 W18 hlk hret (hb hy d34_97) (by decide) (by decide) ⟨r1_15, r2_15, (Nat.le_trans W11.keep.1 P15_0), c19, F18, c21, rfl⟩
theorem rm93 (l : Launch) (Z : State) (a0 : Array Value) (hw : ∀ d ∈ tables_1, d.before a0 Z = true) (gCS : Int32) (a1 a2 a3 : Addr) (k_a3 : ClassId) (x1 x2 x3 x4 : Int32) (h0 : Heap) (O0 : Old Z Z.heap.size h0) (E_a2 : Exa Z h0 a2 "java/lang/StringBuilder") (F_a2_value : Fld Z h0 a2 "java/lang/AbstractStringBuilder" "value" "[B" (.ref a3)) (F_a2_count : Fld Z h0 a2 "java/lang/AbstractStringBuilder" "count" "I" (.int 8)) (SgCS : Sta Z Z.heap "java/lang/String" "COMPACT_STRINGS" "Z" (.int gCS)) (NgCS : ¬ (gCS = (0 : Int32))) (F_a2_coder : Fld Z h0 a2 "java/lang/AbstractStringBuilder" "coder" "B" (.int 0)) (E_a1 : Exa Z h0 a1 "java/lang/String") (F_a1_coder : Fld Z h0 a1 "java/lang/String" "coder" "B" (.int 0)) (V_a3 : Arv Z h0 a3 k_a3 .byte (16 : Int32) [(.int x1), (.int x2), (.int x3), (.int 62), (.int x1), (.int x2), (.int x4), (.int 62), (.int 0), (.int 0), (.int 0), (.int 0), (.int 0), (.int 0), (.int 0), (.int 0)] (.int 0)) (F_a1_value : Fld Z h0 a1 "java/lang/String" "value" "[B" .null) (g_a1 : Z.heap.size ≤ a1) :
    CtrN l Z (⟨"java/lang/String", "<init>", "(Ljava/lang/StringBuilder;)V"⟩ : MethodName) jdk_42_method_53_code 2 none [] (⟨4, 1, 8, 74⟩ : Room) #[(.ref a1), (.ref a2)] h0 [a1] (fun v h => ∃ r1 : Addr, ∃ r2 : ClassId, h0.size ≤ r1 ∧ Fld Z h a1 "java/lang/String" "coder" "B" (.int 0) ∧ Fld Z h a1 "java/lang/String" "value" "[B" (.ref r1) ∧ Arv Z h r1 r2 .byte (8 : Int32) [(.int x1), (.int x2), (.int x3), (.int 62), (.int x1), (.int x2), (.int x4), (.int 62)] (.int 0) ∧ v = none) := by
  refine CtrN.intro (L0 := #[.val (.ref a1), .val (.ref a2)]) (plainFor_of_name pn4) O0 (own_entry rfl) ?_
  intro p e s m below meth c T0 hy hml hret hlk hnm W0
  refine o_aloadN W0 (pc' := 1) (hb hy d33_0) rfl rfl rfl ?_
  refine o_aloadN W0 (pc' := 2) (hb hy d33_1) rfl rfl rfl ?_
  refine o_aconstNull W0 (pc' := 3) (hb hy d33_2) rfl ?_
  refine o_special W0 (y := (⟨"java/lang/String", "<init>", "(Ljava/lang/AbstractStringBuilder;Ljava/lang/Void;)V"⟩ : MethodName)) rfl (w191 hw) (w192 hw) (w193 hw) (by decide) (a := a1) (argsL := [(.ref a2), .null]) (CtrN.back (Wd := 0) W0 (rm92 l Z a0 hw gCS a1 a2 a3 k_a3 x1 x2 x3 x4 h0 W0.old E_a2 F_a2_value F_a2_count SgCS NgCS F_a2_coder E_a1 F_a1_coder g_a1 V_a3 F_a1_value) (w193 hw) (w23 hw) (by decide) (by decide)) (by rw [hml]; rfl) (lenOf pd27 rfl) (S := []) rfl (by exact Nat.le_of_eq rfl) (pc' := 6) (hb hy d33_3) rfl (cells' := 1) (slots' := 8) rfl rfl (by decide) (by decide) (wy := [a1]) (fun _ _ _ q => ⟨q.1, q.2.1⟩) (allS ⟨g_a1, (Or.inl (List.mem_of_getElem? (i := 0) rfl))⟩ all0) (fun _ _ => trivial) ?_
  intro v1 T1 h1 lo1 W1 K1 q1
  obtain ⟨r1_1, r2_1, P1_0, P1_1, P1_2, P1_3, rfl⟩ := q1.2.2
  show Gl _ _ _ _ _ _ _ _ []
  have c2 := (E_a1.keep K1)
  exact o_ret0 W1 hlk hret (hb hy d33_6) (by decide) (by decide) ⟨r1_1, r2_1, (Nat.le_trans W0.keep.1 P1_0), P1_1, P1_2, P1_3, rfl⟩
theorem rm94 (l : Launch) (Z : State) (a0 : Array Value) (hw : ∀ d ∈ tables_1, d.before a0 Z = true) (gCS : Int32) (a1 a2 : Addr) (k_a2 : ClassId) (x1 x2 x3 x4 : Int32) (h0 : Heap) (O0 : Old Z Z.heap.size h0) (E_a1 : Exa Z h0 a1 "java/lang/StringBuilder") (F_a1_value : Fld Z h0 a1 "java/lang/AbstractStringBuilder" "value" "[B" (.ref a2)) (F_a1_count : Fld Z h0 a1 "java/lang/AbstractStringBuilder" "count" "I" (.int 8)) (SgCS : Sta Z Z.heap "java/lang/String" "COMPACT_STRINGS" "Z" (.int gCS)) (NgCS : ¬ (gCS = (0 : Int32))) (F_a1_coder : Fld Z h0 a1 "java/lang/AbstractStringBuilder" "coder" "B" (.int 0)) (V_a2 : Arv Z h0 a2 k_a2 .byte (16 : Int32) [(.int x1), (.int x2), (.int x3), (.int 62), (.int x1), (.int x2), (.int x4), (.int 62), (.int 0), (.int 0), (.int 0), (.int 0), (.int 0), (.int 0), (.int 0), (.int 0)] (.int 0)) :
    CtrN l Z (⟨"java/lang/StringBuilder", "toString", "()Ljava/lang/String;"⟩ : MethodName) jdk_67_method_42_code 1 (some (.object "java/lang/String")) [] (⟨5, 2, 12, 88⟩ : Room) #[(.ref a1)] h0 [] (fun v h => ∃ r1 : Addr, ∃ r2 : Addr, ∃ r3 : ClassId, h0.size ≤ r1 ∧ h0.size ≤ r2 ∧ Exa Z h r1 "java/lang/String" ∧ Fld Z h r1 "java/lang/String" "value" "[B" (.ref r2) ∧ Fld Z h r1 "java/lang/String" "coder" "B" (.int 0) ∧ Arv Z h r2 r3 .byte (8 : Int32) [(.int x1), (.int x2), (.int x3), (.int 62), (.int x1), (.int x2), (.int x4), (.int 62)] (.int 0) ∧ v = some (.ref r1)) := by
  refine CtrN.intro (L0 := #[.val (.ref a1)]) (plainFor_of_name pn1) O0 (own_entry rfl) ?_
  intro p e s m below meth c T0 hy hml hret hlk hnm W0
  refine o_new W0 (w187 hw) (w40 hw) (w23 hw) (fun _ _ => trivial) (pc' := 3) (hb hy d32_0) rfl (cells' := 1) (slots' := 4) rfl rfl (by decide) (by decide) ?_
  intro b1 T1 h1 W1 E1 ge1 gz1 gb1 A1 D1
  have Fb1_value : Fld Z h1 b1 "java/lang/String" "value" "[B" .null := D1 (Or.inr (w50 hw)) (ty := (.array .byte)) (by decide)
  have Fb1_coder : Fld Z h1 b1 "java/lang/String" "coder" "B" (.int 0) := D1 (Or.inr (w52 hw)) (ty := .byte) (by decide)
  refine o_dup W1 (pc' := 4) (hb hy d32_3) rfl rfl ?_
  refine o_aloadN W1 (pc' := 5) (hb hy d32_4) rfl rfl rfl ?_
  have c2 := (E_a1.ext E1)
  have c3 := (F_a1_value.ext E1)
  have c4 := (F_a1_count.ext E1)
  have c5 := (F_a1_coder.ext E1)
  have c6 := (V_a2.ext E1)
  refine o_special W1 (y := (⟨"java/lang/String", "<init>", "(Ljava/lang/StringBuilder;)V"⟩ : MethodName)) rfl (w188 hw) (w189 hw) (w190 hw) (by decide) (a := b1) (argsL := [(.ref a1)]) (CtrN.back (Wd := 1) W1 (rm93 l Z a0 hw gCS b1 a1 a2 k_a2 x1 x2 x3 x4 h1 W1.old c2 c3 c4 SgCS NgCS c5 A1 Fb1_coder c6 Fb1_value gz1) (w190 hw) (w23 hw) (by decide) (by decide)) (by rw [hml]; rfl) (lenOf pd28 rfl) (S := [(.ref b1)]) rfl (by exact Nat.le_of_eq rfl) (pc' := 8) (hb hy d32_5) rfl (cells' := 2) (slots' := 12) rfl rfl (by decide) (by decide) (wy := [b1]) (fun _ _ _ q => ⟨q.1, q.2.1⟩) (allS ⟨gz1, (Or.inr gb1)⟩ all0) (fun _ _ => trivial) ?_
  intro v7 T7 h7 lo7 W7 K7 q7
  obtain ⟨r1_7, r2_7, P7_0, P7_1, P7_2, P7_3, rfl⟩ := q7.2.2
  show Gl _ _ _ _ _ _ _ _ [(.ref b1)]
  have c8 := (A1.keep K7)
  exact o_retA W7 hlk (v := (.ref b1)) hret rfl rfl (hb hy d32_8) (by decide) (by decide) ⟨b1, r1_7, r2_7, gb1, (Nat.le_trans W1.keep.1 P7_0), c8, P7_2, P7_1, P7_3, rfl⟩
theorem rm95 (l : Launch) (Z : State) (a0 : Array Value) (hw : ∀ d ∈ tables_1, d.before a0 Z = true) (gCS : Int32) (a1 a2 a3 : Addr) (k_a3 : ClassId) (x1 x2 x3 x4 : Int32) (h0 : Heap) (O0 : Old Z Z.heap.size h0) (F_a1_out : Fld Z h0 a1 "com/example/colophon/colophon/api/Html" "out" "Ljava/lang/StringBuilder;" (.ref a2)) (E_a2 : Exa Z h0 a2 "java/lang/StringBuilder") (F_a2_value : Fld Z h0 a2 "java/lang/AbstractStringBuilder" "value" "[B" (.ref a3)) (F_a2_count : Fld Z h0 a2 "java/lang/AbstractStringBuilder" "count" "I" (.int 8)) (SgCS : Sta Z Z.heap "java/lang/String" "COMPACT_STRINGS" "Z" (.int gCS)) (NgCS : ¬ (gCS = (0 : Int32))) (F_a2_coder : Fld Z h0 a2 "java/lang/AbstractStringBuilder" "coder" "B" (.int 0)) (V_a3 : Arv Z h0 a3 k_a3 .byte (16 : Int32) [(.int x1), (.int x2), (.int x3), (.int 62), (.int x1), (.int x2), (.int x4), (.int 62), (.int 0), (.int 0), (.int 0), (.int 0), (.int 0), (.int 0), (.int 0), (.int 0)] (.int 0)) :
    CtrN l Z (⟨"com/example/colophon/colophon/api/Html", "toString", "()Ljava/lang/String;"⟩ : MethodName) prog_5_method_8_code 1 (some (.object "java/lang/String")) [] (⟨6, 2, 12, 100⟩ : Room) #[(.ref a1)] h0 [] (fun v h => ∃ r1 : Addr, ∃ r2 : Addr, ∃ r3 : ClassId, h0.size ≤ r1 ∧ h0.size ≤ r2 ∧ Exa Z h r1 "java/lang/String" ∧ Fld Z h r1 "java/lang/String" "value" "[B" (.ref r2) ∧ Fld Z h r1 "java/lang/String" "coder" "B" (.int 0) ∧ Arv Z h r2 r3 .byte (8 : Int32) [(.int x1), (.int x2), (.int x3), (.int 62), (.int x1), (.int x2), (.int x4), (.int 62)] (.int 0) ∧ v = some (.ref r1)) := by
  refine CtrN.intro (L0 := #[.val (.ref a1)]) (plainFor_of_name pn2) O0 (own_entry rfl) ?_
  intro p e s m below meth c T0 hy hml hret hlk hnm W0
  refine o_aloadN W0 (pc' := 1) (hb hy d31_0) rfl rfl rfl ?_
  refine o_getF W0 (w29 hw) Via.refl F_a1_out (pc' := 4) (hb hy d31_1) rfl ?_
  intro T1 W1
  refine o_virtual W1 (y := (⟨"java/lang/StringBuilder", "toString", "()Ljava/lang/String;"⟩ : MethodName)) (z := (⟨"java/lang/StringBuilder", "toString", "()Ljava/lang/String;"⟩ : MethodName)) (w182 hw) (w183 hw) (o_nf W1 rfl (w185 hw)) (w185 hw) (w184 hw) (by decide) E_a2 (argsL := []) (CtrN.back (Wd := 0) W1 (rm94 l Z a0 hw gCS a2 a3 k_a3 x1 x2 x3 x4 h0 W1.old E_a2 F_a2_value F_a2_count SgCS NgCS F_a2_coder V_a3) (w186 hw) (w11 hw) (by decide) (by decide)) (by rw [hml]; rfl) (lenOf pd29 rfl) (S := []) rfl (by exact Nat.le_of_eq rfl) (pc' := 7) (hb hy d31_4) rfl (cells' := 2) (slots' := 12) rfl rfl (by decide) (by decide) (wy := []) (fun _ _ _ q => ⟨q.1, q.2.1⟩) all0 (fun _ _ => trivial) ?_
  intro v2 T2 h2 lo2 W2 K2 q2
  obtain ⟨r1_2, r2_2, r3_2, P2_0, P2_1, P2_2, P2_3, P2_4, P2_5, rfl⟩ := q2.2.2
  show Gl _ _ _ _ _ _ _ _ [(.ref r1_2)]
  exact o_retA W2 hlk (v := (.ref r1_2)) hret rfl rfl (hb hy d31_7) (by decide) (by decide) ⟨r1_2, r2_2, r3_2, (Nat.le_trans W1.keep.1 P2_0), (Nat.le_trans W1.keep.1 P2_1), P2_2, P2_3, P2_4, P2_5, rfl⟩
theorem rm96 (l : Launch) (Z : State) (a0 : Array Value) (hw : ∀ d ∈ tables_1, d.before a0 Z = true) (a1 a2 : Addr) (k_a1 : ClassId) (x1 x2 x3 x4 : Int32) (k_a2 : ClassId) (x5 x6 : Int32) (h0 : Heap) (O0 : Old Z Z.heap.size h0) (V_a1 : Arv Z h0 a1 k_a1 .byte (8 : Int32) [(.int x1), (.int x2), (.int x3), (.int 62), (.int x1), (.int x2), (.int x4), (.int 62)] (.int 0)) (V_a2 : Arv Z h0 a2 k_a2 .byte (8 : Int32) [(.int (StrChars.lo8 (60 : Int32))), (.int (StrChars.lo8 (47 : Int32))), (.int (StrChars.lo8 x5)), (.int (StrChars.lo8 (62 : Int32))), (.int (StrChars.lo8 (60 : Int32))), (.int (StrChars.lo8 (47 : Int32))), (.int (StrChars.lo8 x6)), (.int (StrChars.lo8 (62 : Int32)))] (.int 0)) (hc1 : x1 = (StrChars.lo8 (60 : Int32))) (hc2 : x2 = (StrChars.lo8 (47 : Int32))) (hc3 : x3 = (StrChars.lo8 x5)) (hc4 : x4 = (StrChars.lo8 x6)) :
    CtrN l Z (⟨"java/lang/StringLatin1", "equals", "([B[B)Z"⟩ : MethodName) jdk_43_method_13_code 3 (some .boolean) [] (⟨0, 0, 0, 0⟩ : Room) #[(.ref a1), (.ref a2)] h0 [] (fun v h => v = some (.int 1)) := by
  refine CtrN.intro (L0 := #[.val (.ref a1), .val (.ref a2), .unset]) (plainFor_of_name pn3) O0 (own_entry rfl) ?_
  intro p e s m below meth c T0 hy hml hret hlk hnm W0
  refine o_aloadN W0 (pc' := 1) (hb hy d46_0) rfl rfl rfl ?_
  refine o_len W0 V_a1 (pc' := 2) (hb hy d46_1) rfl ?_
  refine o_aloadN W0 (pc' := 3) (hb hy d46_2) rfl rfl rfl ?_
  refine o_len W0 V_a2 (pc' := 4) (hb hy d46_3) rfl ?_
  refine o_icmpN W0 (pc' := 7) (hb hy d46_4) (XT.ii_ne_f (by decide)) rfl ?_
  refine o_iconst W0 (v := 0) (pc' := 8) (hb hy d46_7) rfl rfl ?_
  refine o_istoreN W0 (L' := #[.val (.ref a1), .val (.ref a2), .val (.int 0)]) (pc' := 9) (hb hy d46_8) rfl rfl ?_
  refine o_iloadN W0 (pc' := 10) (hb hy d46_9) rfl rfl ?_
  refine o_aloadN W0 (pc' := 11) (hb hy d46_10) rfl rfl rfl ?_
  refine o_len W0 V_a1 (pc' := 12) (hb hy d46_11) rfl ?_
  refine o_icmpN W0 (pc' := 15) (hb hy d46_12) (XT.ii_ge_f (by decide)) rfl ?_
  refine o_aloadN W0 (pc' := 16) (hb hy d46_15) rfl rfl rfl ?_
  refine o_iloadN W0 (pc' := 17) (hb hy d46_16) rfl rfl ?_
  refine o_baload W0 V_a1 (x := x1) (i := 0) (by decide) (by decide) (by decide) rfl (pc' := 18) (hb hy d46_17) rfl ?_
  refine o_aloadN W0 (pc' := 19) (hb hy d46_18) rfl rfl rfl ?_
  refine o_iloadN W0 (pc' := 20) (hb hy d46_19) rfl rfl ?_
  refine o_baload W0 V_a2 (x := (StrChars.lo8 (60 : Int32))) (i := 0) (by decide) (by decide) (by decide) rfl (pc' := 21) (hb hy d46_20) rfl ?_
  refine o_icmpY W0 (pc' := 26) (hb hy d46_21) (XT.ii_eq_t hc1) (by decide) rfl ?_
  refine o_iinc W0 (v := 1) (L' := #[.val (.ref a1), .val (.ref a2), .val (.int 1)]) (pc' := 29) (hb hy d46_26) rfl (by decide) rfl rfl ?_
  refine o_goto W0 (pc' := 9) (hb hy d46_29) (by decide) rfl ?_
  refine o_iloadN W0 (pc' := 10) (hb hy d46_9) rfl rfl ?_
  refine o_aloadN W0 (pc' := 11) (hb hy d46_10) rfl rfl rfl ?_
  refine o_len W0 V_a1 (pc' := 12) (hb hy d46_11) rfl ?_
  refine o_icmpN W0 (pc' := 15) (hb hy d46_12) (XT.ii_ge_f (by decide)) rfl ?_
  refine o_aloadN W0 (pc' := 16) (hb hy d46_15) rfl rfl rfl ?_
  refine o_iloadN W0 (pc' := 17) (hb hy d46_16) rfl rfl ?_
  refine o_baload W0 V_a1 (x := x2) (i := 1) (by decide) (by decide) (by decide) rfl (pc' := 18) (hb hy d46_17) rfl ?_
  refine o_aloadN W0 (pc' := 19) (hb hy d46_18) rfl rfl rfl ?_
  refine o_iloadN W0 (pc' := 20) (hb hy d46_19) rfl rfl ?_
  refine o_baload W0 V_a2 (x := (StrChars.lo8 (47 : Int32))) (i := 1) (by decide) (by decide) (by decide) rfl (pc' := 21) (hb hy d46_20) rfl ?_
  refine o_icmpY W0 (pc' := 26) (hb hy d46_21) (XT.ii_eq_t hc2) (by decide) rfl ?_
  refine o_iinc W0 (v := 2) (L' := #[.val (.ref a1), .val (.ref a2), .val (.int 2)]) (pc' := 29) (hb hy d46_26) rfl (by decide) rfl rfl ?_
  refine o_goto W0 (pc' := 9) (hb hy d46_29) (by decide) rfl ?_
  refine o_iloadN W0 (pc' := 10) (hb hy d46_9) rfl rfl ?_
  refine o_aloadN W0 (pc' := 11) (hb hy d46_10) rfl rfl rfl ?_
  refine o_len W0 V_a1 (pc' := 12) (hb hy d46_11) rfl ?_
  refine o_icmpN W0 (pc' := 15) (hb hy d46_12) (XT.ii_ge_f (by decide)) rfl ?_
  refine o_aloadN W0 (pc' := 16) (hb hy d46_15) rfl rfl rfl ?_
  refine o_iloadN W0 (pc' := 17) (hb hy d46_16) rfl rfl ?_
  refine o_baload W0 V_a1 (x := x3) (i := 2) (by decide) (by decide) (by decide) rfl (pc' := 18) (hb hy d46_17) rfl ?_
  refine o_aloadN W0 (pc' := 19) (hb hy d46_18) rfl rfl rfl ?_
  refine o_iloadN W0 (pc' := 20) (hb hy d46_19) rfl rfl ?_
  refine o_baload W0 V_a2 (x := (StrChars.lo8 x5)) (i := 2) (by decide) (by decide) (by decide) rfl (pc' := 21) (hb hy d46_20) rfl ?_
  refine o_icmpY W0 (pc' := 26) (hb hy d46_21) (XT.ii_eq_t hc3) (by decide) rfl ?_
  refine o_iinc W0 (v := 3) (L' := #[.val (.ref a1), .val (.ref a2), .val (.int 3)]) (pc' := 29) (hb hy d46_26) rfl (by decide) rfl rfl ?_
  refine o_goto W0 (pc' := 9) (hb hy d46_29) (by decide) rfl ?_
  refine o_iloadN W0 (pc' := 10) (hb hy d46_9) rfl rfl ?_
  refine o_aloadN W0 (pc' := 11) (hb hy d46_10) rfl rfl rfl ?_
  refine o_len W0 V_a1 (pc' := 12) (hb hy d46_11) rfl ?_
  refine o_icmpN W0 (pc' := 15) (hb hy d46_12) (XT.ii_ge_f (by decide)) rfl ?_
  refine o_aloadN W0 (pc' := 16) (hb hy d46_15) rfl rfl rfl ?_
  refine o_iloadN W0 (pc' := 17) (hb hy d46_16) rfl rfl ?_
  refine o_baload W0 V_a1 (x := (62 : Int32)) (i := 3) (by decide) (by decide) (by decide) rfl (pc' := 18) (hb hy d46_17) rfl ?_
  refine o_aloadN W0 (pc' := 19) (hb hy d46_18) rfl rfl rfl ?_
  refine o_iloadN W0 (pc' := 20) (hb hy d46_19) rfl rfl ?_
  refine o_baload W0 V_a2 (x := (StrChars.lo8 (62 : Int32))) (i := 3) (by decide) (by decide) (by decide) rfl (pc' := 21) (hb hy d46_20) rfl ?_
  refine o_icmpY W0 (pc' := 26) (hb hy d46_21) (XT.ii_eq_t (by decide)) (by decide) rfl ?_
  refine o_iinc W0 (v := 4) (L' := #[.val (.ref a1), .val (.ref a2), .val (.int 4)]) (pc' := 29) (hb hy d46_26) rfl (by decide) rfl rfl ?_
  refine o_goto W0 (pc' := 9) (hb hy d46_29) (by decide) rfl ?_
  refine o_iloadN W0 (pc' := 10) (hb hy d46_9) rfl rfl ?_
  refine o_aloadN W0 (pc' := 11) (hb hy d46_10) rfl rfl rfl ?_
  refine o_len W0 V_a1 (pc' := 12) (hb hy d46_11) rfl ?_
  refine o_icmpN W0 (pc' := 15) (hb hy d46_12) (XT.ii_ge_f (by decide)) rfl ?_
  refine o_aloadN W0 (pc' := 16) (hb hy d46_15) rfl rfl rfl ?_
  refine o_iloadN W0 (pc' := 17) (hb hy d46_16) rfl rfl ?_
  refine o_baload W0 V_a1 (x := x1) (i := 4) (by decide) (by decide) (by decide) rfl (pc' := 18) (hb hy d46_17) rfl ?_
  refine o_aloadN W0 (pc' := 19) (hb hy d46_18) rfl rfl rfl ?_
  refine o_iloadN W0 (pc' := 20) (hb hy d46_19) rfl rfl ?_
  refine o_baload W0 V_a2 (x := (StrChars.lo8 (60 : Int32))) (i := 4) (by decide) (by decide) (by decide) rfl (pc' := 21) (hb hy d46_20) rfl ?_
  refine o_icmpY W0 (pc' := 26) (hb hy d46_21) (XT.ii_eq_t hc1) (by decide) rfl ?_
  refine o_iinc W0 (v := 5) (L' := #[.val (.ref a1), .val (.ref a2), .val (.int 5)]) (pc' := 29) (hb hy d46_26) rfl (by decide) rfl rfl ?_
  refine o_goto W0 (pc' := 9) (hb hy d46_29) (by decide) rfl ?_
  refine o_iloadN W0 (pc' := 10) (hb hy d46_9) rfl rfl ?_
  refine o_aloadN W0 (pc' := 11) (hb hy d46_10) rfl rfl rfl ?_
  refine o_len W0 V_a1 (pc' := 12) (hb hy d46_11) rfl ?_
  refine o_icmpN W0 (pc' := 15) (hb hy d46_12) (XT.ii_ge_f (by decide)) rfl ?_
  refine o_aloadN W0 (pc' := 16) (hb hy d46_15) rfl rfl rfl ?_
  refine o_iloadN W0 (pc' := 17) (hb hy d46_16) rfl rfl ?_
  refine o_baload W0 V_a1 (x := x2) (i := 5) (by decide) (by decide) (by decide) rfl (pc' := 18) (hb hy d46_17) rfl ?_
  refine o_aloadN W0 (pc' := 19) (hb hy d46_18) rfl rfl rfl ?_
  refine o_iloadN W0 (pc' := 20) (hb hy d46_19) rfl rfl ?_
  refine o_baload W0 V_a2 (x := (StrChars.lo8 (47 : Int32))) (i := 5) (by decide) (by decide) (by decide) rfl (pc' := 21) (hb hy d46_20) rfl ?_
  refine o_icmpY W0 (pc' := 26) (hb hy d46_21) (XT.ii_eq_t hc2) (by decide) rfl ?_
  refine o_iinc W0 (v := 6) (L' := #[.val (.ref a1), .val (.ref a2), .val (.int 6)]) (pc' := 29) (hb hy d46_26) rfl (by decide) rfl rfl ?_
  refine o_goto W0 (pc' := 9) (hb hy d46_29) (by decide) rfl ?_
  refine o_iloadN W0 (pc' := 10) (hb hy d46_9) rfl rfl ?_
  refine o_aloadN W0 (pc' := 11) (hb hy d46_10) rfl rfl rfl ?_
  refine o_len W0 V_a1 (pc' := 12) (hb hy d46_11) rfl ?_
  refine o_icmpN W0 (pc' := 15) (hb hy d46_12) (XT.ii_ge_f (by decide)) rfl ?_
  refine o_aloadN W0 (pc' := 16) (hb hy d46_15) rfl rfl rfl ?_
  refine o_iloadN W0 (pc' := 17) (hb hy d46_16) rfl rfl ?_
  refine o_baload W0 V_a1 (x := x4) (i := 6) (by decide) (by decide) (by decide) rfl (pc' := 18) (hb hy d46_17) rfl ?_
  refine o_aloadN W0 (pc' := 19) (hb hy d46_18) rfl rfl rfl ?_
  refine o_iloadN W0 (pc' := 20) (hb hy d46_19) rfl rfl ?_
  refine o_baload W0 V_a2 (x := (StrChars.lo8 x6)) (i := 6) (by decide) (by decide) (by decide) rfl (pc' := 21) (hb hy d46_20) rfl ?_
  refine o_icmpY W0 (pc' := 26) (hb hy d46_21) (XT.ii_eq_t hc4) (by decide) rfl ?_
  refine o_iinc W0 (v := 7) (L' := #[.val (.ref a1), .val (.ref a2), .val (.int 7)]) (pc' := 29) (hb hy d46_26) rfl (by decide) rfl rfl ?_
  refine o_goto W0 (pc' := 9) (hb hy d46_29) (by decide) rfl ?_
  refine o_iloadN W0 (pc' := 10) (hb hy d46_9) rfl rfl ?_
  refine o_aloadN W0 (pc' := 11) (hb hy d46_10) rfl rfl rfl ?_
  refine o_len W0 V_a1 (pc' := 12) (hb hy d46_11) rfl ?_
  refine o_icmpN W0 (pc' := 15) (hb hy d46_12) (XT.ii_ge_f (by decide)) rfl ?_
  refine o_aloadN W0 (pc' := 16) (hb hy d46_15) rfl rfl rfl ?_
  refine o_iloadN W0 (pc' := 17) (hb hy d46_16) rfl rfl ?_
  refine o_baload W0 V_a1 (x := (62 : Int32)) (i := 7) (by decide) (by decide) (by decide) rfl (pc' := 18) (hb hy d46_17) rfl ?_
  refine o_aloadN W0 (pc' := 19) (hb hy d46_18) rfl rfl rfl ?_
  refine o_iloadN W0 (pc' := 20) (hb hy d46_19) rfl rfl ?_
  refine o_baload W0 V_a2 (x := (StrChars.lo8 (62 : Int32))) (i := 7) (by decide) (by decide) (by decide) rfl (pc' := 21) (hb hy d46_20) rfl ?_
  refine o_icmpY W0 (pc' := 26) (hb hy d46_21) (XT.ii_eq_t (by decide)) (by decide) rfl ?_
  refine o_iinc W0 (v := 8) (L' := #[.val (.ref a1), .val (.ref a2), .val (.int 8)]) (pc' := 29) (hb hy d46_26) rfl (by decide) rfl rfl ?_
  refine o_goto W0 (pc' := 9) (hb hy d46_29) (by decide) rfl ?_
  refine o_iloadN W0 (pc' := 10) (hb hy d46_9) rfl rfl ?_
  refine o_aloadN W0 (pc' := 11) (hb hy d46_10) rfl rfl rfl ?_
  refine o_len W0 V_a1 (pc' := 12) (hb hy d46_11) rfl ?_
  refine o_icmpY W0 (pc' := 32) (hb hy d46_12) (XT.ii_ge_t (by decide)) (by decide) rfl ?_
  refine o_iconst W0 (v := 1) (pc' := 33) (hb hy d46_32) rfl rfl ?_
  exact o_retN W0 hlk (t := .boolean) hret (by simp) (z' := (1 : Int32)) (by decide) (hb hy d46_33) (by decide) (by decide) rfl
theorem rm97 (l : Launch) (Z : State) (a0 : Array Value) (hw : ∀ d ∈ tables_1, d.before a0 Z = true) (gCS : Int32) (a1 a2 a3 a4 : Addr) (k_a3 : ClassId) (x1 x2 x3 x4 : Int32) (k_a4 : ClassId) (x5 x6 : Int32) (h0 : Heap) (O0 : Old Z Z.heap.size h0) (E_a1 : Exa Z h0 a1 "java/lang/String") (E_a2 : Exa Z h0 a2 "java/lang/String") (ne_a1_a2 : a1 ≠ a2) (SgCS : Sta Z Z.heap "java/lang/String" "COMPACT_STRINGS" "Z" (.int gCS)) (NgCS : ¬ (gCS = (0 : Int32))) (F_a1_coder : Fld Z h0 a1 "java/lang/String" "coder" "B" (.int 0)) (F_a2_coder : Fld Z h0 a2 "java/lang/String" "coder" "B" (.int 0)) (F_a1_value : Fld Z h0 a1 "java/lang/String" "value" "[B" (.ref a3)) (F_a2_value : Fld Z h0 a2 "java/lang/String" "value" "[B" (.ref a4)) (V_a3 : Arv Z h0 a3 k_a3 .byte (8 : Int32) [(.int x1), (.int x2), (.int x3), (.int 62), (.int x1), (.int x2), (.int x4), (.int 62)] (.int 0)) (V_a4 : Arv Z h0 a4 k_a4 .byte (8 : Int32) [(.int (StrChars.lo8 (60 : Int32))), (.int (StrChars.lo8 (47 : Int32))), (.int (StrChars.lo8 x5)), (.int (StrChars.lo8 (62 : Int32))), (.int (StrChars.lo8 (60 : Int32))), (.int (StrChars.lo8 (47 : Int32))), (.int (StrChars.lo8 x6)), (.int (StrChars.lo8 (62 : Int32)))] (.int 0)) (hc8 : x1 = (StrChars.lo8 (60 : Int32))) (hc9 : x2 = (StrChars.lo8 (47 : Int32))) (hc10 : x3 = (StrChars.lo8 x5)) (hc11 : x4 = (StrChars.lo8 x6)) :
    CtrN l Z (⟨"java/lang/String", "equals", "(Ljava/lang/Object;)Z"⟩ : MethodName) jdk_42_method_66_code 3 (some .boolean) [] (⟨1, 0, 0, 14⟩ : Room) #[(.ref a1), (.ref a2)] h0 [] (fun v h => v = some (.int 1)) := by
  refine CtrN.intro (L0 := #[.val (.ref a1), .val (.ref a2), .unset]) (plainFor_of_name pn4) O0 (own_entry rfl) ?_
  intro p e s m below meth c T0 hy hml hret hlk hnm W0
  refine o_aloadN W0 (pc' := 1) (hb hy d45_0) rfl rfl rfl ?_
  refine o_aloadN W0 (pc' := 2) (hb hy d45_1) rfl rfl rfl ?_
  refine o_acmpY W0 (pc' := 7) (hb hy d45_2) rfl rfl (XT.aa_ne_t (fun q => ne_a1_a2 (Value.ref.inj q))) (by decide) rfl ?_
  refine o_aloadN W0 (pc' := 8) (hb hy d45_7) rfl rfl rfl ?_
  refine o_instY W0 (w39 hw) (Ins.self E_a2) (pc' := 11) (hb hy d45_8) rfl ?_
  intro T1 W1
  refine o_ifN W1 (pc' := 14) (hb hy d45_11) (XT.i0_eq_f (by decide)) rfl ?_
  refine o_aloadN W1 (pc' := 15) (hb hy d45_14) rfl rfl rfl ?_
  refine o_cast W1 (w39 hw) (Ins.self E_a2) (pc' := 18) (hb hy d45_15) rfl ?_
  intro T2 W2
  refine o_astoreN W2 (L' := #[.val (.ref a1), .val (.ref a2), .val (.ref a2)]) (pc' := 19) (hb hy d45_18) rfl rfl rfl ?_
  refine o_getS W2 (w34 hw) Via.refl (SgCS.ext W2.ox) (pc' := 22) (hb hy d45_19) rfl ?_
  intro T3 W3
  refine o_ifN W3 (pc' := 25) (hb hy d45_22) (XT.i0_eq_f NgCS) rfl ?_
  refine o_aloadN W3 (pc' := 26) (hb hy d45_25) rfl rfl rfl ?_
  refine o_getF W3 (w51 hw) Via.refl F_a1_coder (pc' := 29) (hb hy d45_26) rfl ?_
  intro T4 W4
  refine o_aloadN W4 (pc' := 30) (hb hy d45_29) rfl rfl rfl ?_
  refine o_getF W4 (w51 hw) Via.refl F_a2_coder (pc' := 33) (hb hy d45_30) rfl ?_
  intro T5 W5
  refine o_icmpN W5 (pc' := 36) (hb hy d45_33) (XT.ii_ne_f (by decide)) rfl ?_
  refine o_aloadN W5 (pc' := 37) (hb hy d45_36) rfl rfl rfl ?_
  refine o_getF W5 (w49 hw) Via.refl F_a1_value (pc' := 40) (hb hy d45_37) rfl ?_
  intro T6 W6
  refine o_aloadN W6 (pc' := 41) (hb hy d45_40) rfl rfl rfl ?_
  refine o_getF W6 (w49 hw) Via.refl F_a2_value (pc' := 44) (hb hy d45_41) rfl ?_
  intro T7 W7
  refine o_static W7 (y := (⟨"java/lang/StringLatin1", "equals", "([B[B)Z"⟩ : MethodName)) (w238 hw) (w239 hw) (w37 hw) (w240 hw) (by decide) (argsL := [(.ref a3), (.ref a4)]) (CtrN.back (Wd := 0) W7 (rm96 l Z a0 hw a3 a4 k_a3 x1 x2 x3 x4 k_a4 x5 x6 h0 W7.old V_a3 V_a4 hc8 hc9 hc10 hc11) (w240 hw) (w37 hw) (by decide) (by decide)) (by rw [hml]; rfl) (lenOf pd32 rfl) (S := []) rfl (by exact Nat.le_of_eq rfl) (pc' := 47) (hb hy d45_44) rfl (cells' := 0) (slots' := 0) rfl rfl (by decide) (by decide) (wy := []) (fun _ _ _ q => ⟨q.1, q.2.1⟩) all0 (fun _ _ => trivial) ?_
  intro v12 T12 h12 lo12 W12 K12 q12
  obtain rfl := q12.2.2
  show Gl _ _ _ _ _ _ _ _ [(.int 1)]
  refine o_ifN W12 (pc' := 50) (hb hy d45_47) (XT.i0_eq_f (by decide)) rfl ?_
  refine o_iconst W12 (v := 1) (pc' := 51) (hb hy d45_50) rfl rfl ?_
  refine o_goto W12 (pc' := 55) (hb hy d45_51) (by decide) rfl ?_
  exact o_retN W12 hlk (t := .boolean) hret (by simp) (z' := (1 : Int32)) (by decide) (hb hy d45_55) (by decide) (by decide) rfl
theorem rm98 (l : Launch) (Z : State) (a0 : Array Value) (hw : ∀ d ∈ tables_1, d.before a0 Z = true) (a1 a2 : Addr) (k_a2 : ClassId) (x1 x2 x3 : Int32) (h0 : Heap) (O0 : Old Z Z.heap.size h0) (F_a1_value : Fld Z h0 a1 "java/lang/AbstractStringBuilder" "value" "[B" (.ref a2)) (V_a2 : Arv Z h0 a2 k_a2 .byte (16 : Int32) [(.int x1), (.int x2), (.int x3), (.int 62), (.int 0), (.int 0), (.int 0), (.int 0), (.int 0), (.int 0), (.int 0), (.int 0), (.int 0), (.int 0), (.int 0), (.int 0)] (.int 0)) (F_a1_coder : Fld Z h0 a1 "java/lang/AbstractStringBuilder" "coder" "B" (.int 0)) :
    CtrN l Z (⟨"java/lang/AbstractStringBuilder", "ensureCapacityInternal", "(I)V"⟩ : MethodName) jdk_68_method_9_code 3 none [] (⟨0, 0, 0, 0⟩ : Room) #[(.ref a1), (.int 4)] h0 [] (fun v h => v = none) := by
  refine CtrN.intro (L0 := #[.val (.ref a1), .val (.int 4), .unset]) (plainFor_of_name pn0) O0 (own_entry rfl) ?_
  intro p e s m below meth c T0 hy hml hret hlk hnm W0
  refine o_aloadN W0 (pc' := 1) (hb hy d14_0) rfl rfl rfl ?_
  refine o_getF W0 (w25 hw) Via.refl F_a1_value (pc' := 4) (hb hy d14_1) rfl ?_
  intro T1 W1
  refine o_len W1 V_a2 (pc' := 5) (hb hy d14_4) rfl ?_
  refine o_aloadN W1 (pc' := 6) (hb hy d14_5) rfl rfl rfl ?_
  refine o_getF W1 (w27 hw) Via.refl F_a1_coder (pc' := 9) (hb hy d14_6) rfl ?_
  intro T2 W2
  refine o_ishr W2 (v := 16) (pc' := 10) (hb hy d14_9) (by decide) rfl ?_
  refine o_istoreN W2 (L' := #[.val (.ref a1), .val (.int 4), .val (.int 16)]) (pc' := 11) (hb hy d14_10) rfl rfl ?_
  refine o_iloadN W2 (pc' := 12) (hb hy d14_11) rfl rfl ?_
  refine o_iloadN W2 (pc' := 13) (hb hy d14_12) rfl rfl ?_
  refine o_isub W2 (v := (-12 : Int32)) (pc' := 14) (hb hy d14_13) (by decide) rfl ?_
  refine o_ifY W2 (pc' := 38) (hb hy d14_14) (XT.i0_le_t (by decide)) (by decide) rfl ?_
  exact o_ret0 W2 hlk hret (hb hy d14_38) (by decide) (by decide) rfl
theorem rm99 (l : Launch) (Z : State) (a0 : Array Value) (hw : ∀ d ∈ tables_1, d.before a0 Z = true) (a1 a2 a3 : Addr) (k_a3 k_a2 : ClassId) (x1 x2 x3 : Int32) (h0 : Heap) (O0 : Old Z Z.heap.size h0) (F_a1_coder : Fld Z h0 a1 "java/lang/AbstractStringBuilder" "coder" "B" (.int 0)) (F_a1_value : Fld Z h0 a1 "java/lang/AbstractStringBuilder" "value" "[B" (.ref a3)) (F_a1_count : Fld Z h0 a1 "java/lang/AbstractStringBuilder" "count" "I" (.int 0)) (V_a3 : Arv Z h0 a3 k_a3 .byte (16 : Int32) [(.int 0), (.int 0), (.int 0), (.int 0), (.int 0), (.int 0), (.int 0), (.int 0), (.int 0), (.int 0), (.int 0), (.int 0), (.int 0), (.int 0), (.int 0), (.int 0)] (.int 0)) (V_a2 : Arv Z h0 a2 k_a2 .byte (16 : Int32) [(.int x1), (.int x2), (.int x3), (.int 62), (.int 0), (.int 0), (.int 0), (.int 0), (.int 0), (.int 0), (.int 0), (.int 0), (.int 0), (.int 0), (.int 0), (.int 0)] (.int 0)) (g_a2 : Z.heap.size ≤ a2) :
    CtrN l Z (⟨"java/lang/AbstractStringBuilder", "getBytes", "([BIB)V"⟩ : MethodName) jdk_68_method_65_code 4 none [] (⟨1, 0, 0, 27⟩ : Room) #[(.ref a1), (.ref a2), (.int 4), (.int 0)] h0 [a2] (fun v h => Arv Z h a2 k_a2 .byte (16 : Int32) [(.int x1), (.int x2), (.int x3), (.int 62), (.int 0), (.int 0), (.int 0), (.int 0), (.int 0), (.int 0), (.int 0), (.int 0), (.int 0), (.int 0), (.int 0), (.int 0)] (.int 0) ∧ v = none) := by
  refine CtrN.intro (L0 := #[.val (.ref a1), .val (.ref a2), .val (.int 4), .val (.int 0)]) (plainFor_of_name pn0) O0 (own_entry rfl) ?_
  intro p e s m below meth c T0 hy hml hret hlk hnm W0
  refine o_aloadN W0 (pc' := 1) (hb hy d29_0) rfl rfl rfl ?_
  refine o_getF W0 (w27 hw) Via.refl F_a1_coder (pc' := 4) (hb hy d29_1) rfl ?_
  intro T1 W1
  refine o_iloadN W1 (pc' := 5) (hb hy d29_4) rfl rfl ?_
  refine o_icmpN W1 (pc' := 8) (hb hy d29_5) (XT.ii_ne_f (by decide)) rfl ?_
  refine o_aloadN W1 (pc' := 9) (hb hy d29_8) rfl rfl rfl ?_
  refine o_getF W1 (w25 hw) Via.refl F_a1_value (pc' := 12) (hb hy d29_9) rfl ?_
  intro T2 W2
  refine o_iconst W2 (v := 0) (pc' := 13) (hb hy d29_12) rfl rfl ?_
  refine o_aloadN W2 (pc' := 14) (hb hy d29_13) rfl rfl rfl ?_
  refine o_iloadN W2 (pc' := 15) (hb hy d29_14) rfl rfl ?_
  refine o_iloadN W2 (pc' := 16) (hb hy d29_15) rfl rfl ?_
  refine o_ishl W2 (v := 4) (pc' := 17) (hb hy d29_16) (by decide) rfl ?_
  refine o_aloadN W2 (pc' := 18) (hb hy d29_17) rfl rfl rfl ?_
  refine o_getF W2 (w81 hw) Via.refl F_a1_count (pc' := 21) (hb hy d29_18) rfl ?_
  intro T3 W3
  refine o_iloadN W3 (pc' := 22) (hb hy d29_21) rfl rfl ?_
  refine o_ishl W3 (v := 0) (pc' := 23) (hb hy d29_22) (by decide) rfl ?_
  refine o_copy W3 (w169 hw) (w107 hw) (w105 hw) (w106 hw) V_a3 V_a2 (us := []) (Or.inl ⟨rfl, rfl⟩) (by decide) (by decide) (by decide) (by decide) (by decide) rfl (Nat.le_of_ble_eq_true rfl) (vd' := [(.int x1), (.int x2), (.int x3), (.int 62), (.int 0), (.int 0), (.int 0), (.int 0), (.int 0), (.int 0), (.int 0), (.int 0), (.int 0), (.int 0), (.int 0), (.int 0)]) rfl g_a2 (Or.inl (List.mem_of_getElem? (i := 0) rfl)) (fun _ _ => trivial) (by rw [hml]; rfl) (pc' := 26) (hb hy d29_23) rfl (by decide) 0 (by exact Nat.le_of_eq rfl) (by decide) ?_
  intro T4 h4 lo4 W4 K4 V4
  refine o_goto W4 (pc' := 43) (hb hy d29_26) (by decide) rfl ?_
  exact o_ret0 W4 hlk hret (hb hy d29_43) (by decide) (by decide) ⟨V4, rfl⟩
theorem rm100 (l : Launch) (Z : State) (a0 : Array Value) (hw : ∀ d ∈ tables_1, d.before a0 Z = true) (gCS : Int32) (a1 a2 a3 : Addr) (k_a3 : ClassId) (x1 x2 x3 : Int32) (a4 : Addr) (k_a4 : ClassId) (h0 : Heap) (O0 : Old Z Z.heap.size h0) (E_a2 : Exa Z h0 a2 "java/lang/StringBuilder") (F_a2_count : Fld Z h0 a2 "java/lang/AbstractStringBuilder" "count" "I" (.int 0)) (F_a1_count : Fld Z h0 a1 "java/lang/AbstractStringBuilder" "count" "I" (.int 4)) (E_a1 : Exa Z h0 a1 "java/lang/StringBuilder") (F_a1_value : Fld Z h0 a1 "java/lang/AbstractStringBuilder" "value" "[B" (.ref a3)) (V_a3 : Arv Z h0 a3 k_a3 .byte (16 : Int32) [(.int x1), (.int x2), (.int x3), (.int 62), (.int 0), (.int 0), (.int 0), (.int 0), (.int 0), (.int 0), (.int 0), (.int 0), (.int 0), (.int 0), (.int 0), (.int 0)] (.int 0)) (F_a1_coder : Fld Z h0 a1 "java/lang/AbstractStringBuilder" "coder" "B" (.int 0)) (SgCS : Sta Z Z.heap "java/lang/String" "COMPACT_STRINGS" "Z" (.int gCS)) (NgCS : ¬ (gCS = (0 : Int32))) (F_a2_coder : Fld Z h0 a2 "java/lang/AbstractStringBuilder" "coder" "B" (.int 0)) (F_a2_value : Fld Z h0 a2 "java/lang/AbstractStringBuilder" "value" "[B" (.ref a4)) (V_a4 : Arv Z h0 a4 k_a4 .byte (16 : Int32) [(.int 0), (.int 0), (.int 0), (.int 0), (.int 0), (.int 0), (.int 0), (.int 0), (.int 0), (.int 0), (.int 0), (.int 0), (.int 0), (.int 0), (.int 0), (.int 0)] (.int 0)) (g_a3 : Z.heap.size ≤ a3) (g_a1 : Z.heap.size ≤ a1) (F_a1_maybeLatin1 : Fld Z h0 a1 "java/lang/AbstractStringBuilder" "maybeLatin1" "Z" (.int 0)) (F_a2_maybeLatin1 : Fld Z h0 a2 "java/lang/AbstractStringBuilder" "maybeLatin1" "Z" (.int 0)) (ne_a1_a2 : a1 ≠ a2) :
    CtrN l Z (⟨"java/lang/AbstractStringBuilder", "append", "(Ljava/lang/AbstractStringBuilder;)Ljava/lang/AbstractStringBuilder;"⟩ : MethodName) jdk_68_method_24_code 3 (some (.object "java/lang/AbstractStringBuilder")) [] (⟨2, 0, 0, 42⟩ : Room) #[(.ref a1), (.ref a2)] h0 [a3, a1] (fun v h => Fld Z h a1 "java/lang/AbstractStringBuilder" "count" "I" (.int 4) ∧ Fld Z h a1 "java/lang/AbstractStringBuilder" "value" "[B" (.ref a3) ∧ Arv Z h a3 k_a3 .byte (16 : Int32) [(.int x1), (.int x2), (.int x3), (.int 62), (.int 0), (.int 0), (.int 0), (.int 0), (.int 0), (.int 0), (.int 0), (.int 0), (.int 0), (.int 0), (.int 0), (.int 0)] (.int 0) ∧ Fld Z h a1 "java/lang/AbstractStringBuilder" "coder" "B" (.int 0) ∧ Fld Z h a1 "java/lang/AbstractStringBuilder" "maybeLatin1" "Z" (.int 0) ∧ v = some (.ref a1)) := by
  refine CtrN.intro (L0 := #[.val (.ref a1), .val (.ref a2), .unset]) (plainFor_of_name pn0) O0 (own_entry rfl) ?_
  intro p e s m below meth c T0 hy hml hret hlk hnm W0
  refine o_aloadN W0 (pc' := 1) (hb hy d24_0) rfl rfl rfl ?_
  refine o_ifnonnullY W0 (pc' := 9) (hb hy d24_1) (by decide) rfl ?_
  refine o_aloadN W0 (pc' := 10) (hb hy d24_9) rfl rfl rfl ?_
  refine o_virtual W0 (y := (⟨"java/lang/AbstractStringBuilder", "length", "()I"⟩ : MethodName)) (z := (⟨"java/lang/StringBuilder", "length", "()I"⟩ : MethodName)) (w146 hw) (w147 hw) (nf_super (args := #[]) (mvT W0.2.2.2.1 (w138 hw))) (w149 hw) (w150 hw) (by decide) E_a2 (argsL := []) (CtrN.back (Wd := 0) W0 (rm5 l Z a0 hw a2 h0 W0.old F_a2_count E_a2) (w151 hw) (w11 hw) (by decide) (by decide)) (by rw [hml]; rfl) (lenOf pd2 rfl) (S := []) rfl (by exact Nat.le_of_eq rfl) (pc' := 13) (hb hy d24_10) rfl (cells' := 0) (slots' := 0) rfl rfl (by decide) (by decide) (wy := []) (fun _ _ _ q => ⟨q.1, q.2.1⟩) all0 (fun _ _ => trivial) ?_
  intro v1 T1 h1 lo1 W1 K1 q1
  obtain rfl := q1.2.2
  show Gl _ _ _ _ _ _ _ _ [(.int 0)]
  refine o_istoreN W1 (L' := #[.val (.ref a1), .val (.ref a2), .val (.int 0)]) (pc' := 14) (hb hy d24_13) rfl rfl ?_
  refine o_aloadN W1 (pc' := 15) (hb hy d24_14) rfl rfl rfl ?_
  refine o_aloadN W1 (pc' := 16) (hb hy d24_15) rfl rfl rfl ?_
  have c2 := (F_a1_count.keep K1 nin0)
  refine o_getF W1 (w81 hw) Via.refl c2 (pc' := 19) (hb hy d24_16) rfl ?_
  intro T3 W3
  refine o_iloadN W3 (pc' := 20) (hb hy d24_19) rfl rfl ?_
  refine o_iadd W3 (v := 4) (pc' := 21) (hb hy d24_20) (by decide) rfl ?_
  have c4 := (E_a1.keep K1)
  have c5 := (F_a1_value.keep K1 nin0)
  have c6 := (V_a3.keep K1 nin0)
  have c7 := (F_a1_coder.keep K1 nin0)
  refine o_private W3 (y := (⟨"java/lang/AbstractStringBuilder", "ensureCapacityInternal", "(I)V"⟩ : MethodName)) (w83 hw) (w84 hw) (w86 hw) (w85 hw) (w87 hw) (by decide) c4 (argsL := [(.int 4)]) (CtrN.back (Wd := 0) W3 (rm98 l Z a0 hw a1 a3 k_a3 x1 x2 x3 h1 W3.old c5 c6 c7) (w87 hw) (w19 hw) (by decide) (by decide)) (by rw [hml]; rfl) (lenOf pd0 rfl) (S := []) rfl (by exact Nat.le_of_eq rfl) (pc' := 24) (hb hy d24_21) rfl (cells' := 0) (slots' := 0) rfl rfl (by decide) (by decide) (wy := []) (fun _ _ _ q => ⟨q.1, q.2.1⟩) all0 (fun _ _ => trivial) ?_
  intro v8 T8 h8 lo8 W8 K8 q8
  obtain rfl := q8.2.2
  show Gl _ _ _ _ _ _ _ _ []
  refine o_aloadN W8 (pc' := 25) (hb hy d24_24) rfl rfl rfl ?_
  refine o_aloadN W8 (pc' := 26) (hb hy d24_25) rfl rfl rfl ?_
  have c9 := (c7.keep K8 nin0)
  have c10 := ((F_a2_coder.keep K1 nin0).keep K8 nin0)
  have c11 := ((E_a2.keep K1).keep K8)
  have c12 := (c4.keep K8)
  refine o_private W8 (y := (⟨"java/lang/AbstractStringBuilder", "inflateIfNeededFor", "(Ljava/lang/AbstractStringBuilder;)V"⟩ : MethodName)) (w154 hw) (w155 hw) (w157 hw) (w156 hw) (w158 hw) (by decide) c12 (argsL := [(.ref a2)]) (CtrN.back (Wd := 0) W8 (rm8 l Z a0 hw gCS a1 a2 h8 W8.old SgCS NgCS c9 c11 c10) (w158 hw) (w19 hw) (by decide) (by decide)) (by rw [hml]; rfl) (lenOf pd4 rfl) (S := []) rfl (by exact Nat.le_of_eq rfl) (pc' := 29) (hb hy d24_26) rfl (cells' := 0) (slots' := 0) rfl rfl (by decide) (by decide) (wy := []) (fun _ _ _ q => ⟨q.1, q.2.1⟩) all0 (fun _ _ => trivial) ?_
  intro v13 T13 h13 lo13 W13 K13 q13
  obtain rfl := q13.2.2
  show Gl _ _ _ _ _ _ _ _ []
  refine o_aloadN W13 (pc' := 30) (hb hy d24_29) rfl rfl rfl ?_
  refine o_aloadN W13 (pc' := 31) (hb hy d24_30) rfl rfl rfl ?_
  have c14 := ((c5.keep K8 nin0).keep K13 nin0)
  refine o_getF W13 (w25 hw) Via.refl c14 (pc' := 34) (hb hy d24_31) rfl ?_
  intro T15 W15
  refine o_aloadN W15 (pc' := 35) (hb hy d24_34) rfl rfl rfl ?_
  have c16 := ((c2.keep K8 nin0).keep K13 nin0)
  refine o_getF W15 (w81 hw) Via.refl c16 (pc' := 38) (hb hy d24_35) rfl ?_
  intro T17 W17
  refine o_aloadN W17 (pc' := 39) (hb hy d24_38) rfl rfl rfl ?_
  have c18 := (c9.keep K13 nin0)
  refine o_getF W17 (w27 hw) Via.refl c18 (pc' := 42) (hb hy d24_39) rfl ?_
  intro T19 W19
  have c20 := (c10.keep K13 nin0)
  have c21 := (((F_a2_value.keep K1 nin0).keep K8 nin0).keep K13 nin0)
  have c22 := (((F_a2_count.keep K1 nin0).keep K8 nin0).keep K13 nin0)
  have c23 := (((V_a4.keep K1 nin0).keep K8 nin0).keep K13 nin0)
  have c24 := ((c6.keep K8 nin0).keep K13 nin0)
  have c25 := (c11.keep K13)
  refine o_virtual W19 (y := (⟨"java/lang/AbstractStringBuilder", "getBytes", "([BIB)V"⟩ : MethodName)) (z := (⟨"java/lang/AbstractStringBuilder", "getBytes", "([BIB)V"⟩ : MethodName)) (w164 hw) (w165 hw) (o_nf W19 rfl (w167 hw)) (w167 hw) (w166 hw) (by decide) c25 (argsL := [(.ref a3), (.int 4), (.int 0)]) (CtrN.back (Wd := 0) W19 (rm99 l Z a0 hw a2 a3 a4 k_a4 k_a3 x1 x2 x3 h13 W19.old c20 c21 c22 c23 c24 g_a3) (w168 hw) (w19 hw) (by decide) (by decide)) (by rw [hml]; rfl) (lenOf pd5 rfl) (S := []) rfl (by exact Nat.le_of_eq rfl) (pc' := 45) (hb hy d24_42) rfl (cells' := 0) (slots' := 0) rfl rfl (by decide) (by decide) (wy := [a3]) (fun _ _ _ q => ⟨q.1, q.2.1⟩) (allS ⟨g_a3, (Or.inl (List.mem_of_getElem? (i := 0) rfl))⟩ all0) (fun _ _ => trivial) ?_
  intro v26 T26 h26 lo26 W26 K26 q26
  obtain ⟨P26_0, rfl⟩ := q26.2.2
  show Gl _ _ _ _ _ _ _ _ []
  refine o_aloadN W26 (pc' := 46) (hb hy d24_45) rfl rfl rfl ?_
  refine o_dup W26 (pc' := 47) (hb hy d24_46) rfl rfl ?_
  have c27 := ((c12.keep K13).keep K26)
  have c28 := (c12.keep K13)
  have c29 := (c16.keep K26 (ninS (Exa.neArv c28 c24 (w10 hw)) nin0))
  refine o_getF W26 (w81 hw) Via.refl c29 (pc' := 50) (hb hy d24_47) rfl ?_
  intro T30 W30
  refine o_iloadN W30 (pc' := 51) (hb hy d24_50) rfl rfl ?_
  refine o_iadd W30 (v := 4) (pc' := 52) (hb hy d24_51) (by decide) rfl ?_
  refine o_putF W30 (w81 hw) Via.refl c29 c27 (Or.inl (w82 hw)) (w10 hw) (ty := .int) (v' := (.int 4)) (by decide) rfl rfl g_a1 (Or.inl (List.mem_of_getElem? (i := 1) rfl)) (fun _ _ => trivial) (pc' := 55) (hb hy d24_52) rfl ?_
  intro T31 h31 lo31 W31 R31
  have F31 := c29.same R31
  refine o_aloadN W31 (pc' := 56) (hb hy d24_55) rfl rfl rfl ?_
  refine o_dup W31 (pc' := 57) (hb hy d24_56) rfl rfl ?_
  have c32 := (c27.wr R31)
  have c33 := (((((F_a1_maybeLatin1.keep K1 nin0).keep K8 nin0).keep K13 nin0).keep K26 (ninS (Exa.neArv c28 c24 (w10 hw)) nin0)).other R31 (Or.inr (slot_ne (Or.inl (w171 hw)) (Or.inl (w82 hw)) (by decide) (t := .boolean) (t' := .int) (by decide) (by decide))))
  refine o_getF W31 (w170 hw) Via.refl c33 (pc' := 60) (hb hy d24_57) rfl ?_
  intro T34 W34
  refine o_aloadN W34 (pc' := 61) (hb hy d24_60) rfl rfl rfl ?_
  have c35 := ((c25.keep K26).wr R31)
  have c36 := (((((F_a2_maybeLatin1.keep K1 nin0).keep K8 nin0).keep K13 nin0).keep K26 (ninS (Exa.neArv c25 c24 (w10 hw)) nin0)).other R31 (Or.inl (Ne.symm ne_a1_a2)))
  refine o_getF W34 (w170 hw) Via.refl c36 (pc' := 64) (hb hy d24_61) rfl ?_
  intro T37 W37
  refine o_ior W37 (v := 0) (pc' := 65) (hb hy d24_64) (by decide) rfl ?_
  refine o_putF W37 (w170 hw) Via.refl c33 c32 (Or.inl (w171 hw)) (w10 hw) (ty := .boolean) (v' := (.int 0)) (by decide) rfl (by decide) g_a1 (Or.inl (List.mem_of_getElem? (i := 1) rfl)) (fun _ _ => trivial) (pc' := 68) (hb hy d24_65) rfl ?_
  intro T38 h38 lo38 W38 R38
  have F38 := c33.same R38
  refine o_aloadN W38 (pc' := 69) (hb hy d24_68) rfl rfl rfl ?_
  have c39 := (F31.other R38 (Or.inr (slot_ne (Or.inl (w82 hw)) (Or.inl (w171 hw)) (by decide) (t := .int) (t' := .boolean) (by decide) (by decide))))
  have c40 := (c32.wr R38)
  have c41 := (((c14.keep K26 (ninS (Exa.neArv c28 c24 (w10 hw)) nin0)).other R31 (Or.inr (slot_ne (Or.inl (w26 hw)) (Or.inl (w82 hw)) (by decide) (t := (.array .byte)) (t' := .int) (by decide) (by decide)))).other R38 (Or.inr (slot_ne (Or.inl (w26 hw)) (Or.inl (w171 hw)) (by decide) (t := (.array .byte)) (t' := .boolean) (by decide) (by decide))))
  have c42 := (((c18.keep K26 (ninS (Exa.neArv c28 c24 (w10 hw)) nin0)).other R31 (Or.inr (slot_ne (Or.inl (w28 hw)) (Or.inl (w82 hw)) (by decide) (t := .byte) (t' := .int) (by decide) (by decide)))).other R38 (Or.inr (slot_ne (Or.inl (w28 hw)) (Or.inl (w171 hw)) (by decide) (t := .byte) (t' := .boolean) (by decide) (by decide))))
  have c43 := (P26_0.other R31 (Ne.symm (Exa.neArv c27 P26_0 (w10 hw))))
  have c44 := ((P26_0.other R31 (Ne.symm (Exa.neArv c27 P26_0 (w10 hw)))).other R38 (Ne.symm (Exa.neArv c32 c43 (w10 hw))))
  exact o_retA W38 hlk (v := (.ref a1)) hret rfl rfl (hb hy d24_69) (by decide) (by decide) ⟨c39, c41, c44, c42, F38, rfl⟩
theorem rm101 (l : Launch) (Z : State) (a0 : Array Value) (hw : ∀ d ∈ tables_1, d.before a0 Z = true) (gCS : Int32) (a1 a2 a3 : Addr) (k_a3 : ClassId) (x1 x2 x3 : Int32) (a4 : Addr) (k_a4 : ClassId) (h0 : Heap) (O0 : Old Z Z.heap.size h0) (E_a2 : Exa Z h0 a2 "java/lang/StringBuilder") (E_a1 : Exa Z h0 a1 "java/lang/StringBuilder") (F_a2_count : Fld Z h0 a2 "java/lang/AbstractStringBuilder" "count" "I" (.int 0)) (F_a1_count : Fld Z h0 a1 "java/lang/AbstractStringBuilder" "count" "I" (.int 4)) (F_a1_value : Fld Z h0 a1 "java/lang/AbstractStringBuilder" "value" "[B" (.ref a3)) (V_a3 : Arv Z h0 a3 k_a3 .byte (16 : Int32) [(.int x1), (.int x2), (.int x3), (.int 62), (.int 0), (.int 0), (.int 0), (.int 0), (.int 0), (.int 0), (.int 0), (.int 0), (.int 0), (.int 0), (.int 0), (.int 0)] (.int 0)) (F_a1_coder : Fld Z h0 a1 "java/lang/AbstractStringBuilder" "coder" "B" (.int 0)) (SgCS : Sta Z Z.heap "java/lang/String" "COMPACT_STRINGS" "Z" (.int gCS)) (NgCS : ¬ (gCS = (0 : Int32))) (F_a2_coder : Fld Z h0 a2 "java/lang/AbstractStringBuilder" "coder" "B" (.int 0)) (F_a2_value : Fld Z h0 a2 "java/lang/AbstractStringBuilder" "value" "[B" (.ref a4)) (V_a4 : Arv Z h0 a4 k_a4 .byte (16 : Int32) [(.int 0), (.int 0), (.int 0), (.int 0), (.int 0), (.int 0), (.int 0), (.int 0), (.int 0), (.int 0), (.int 0), (.int 0), (.int 0), (.int 0), (.int 0), (.int 0)] (.int 0)) (F_a1_maybeLatin1 : Fld Z h0 a1 "java/lang/AbstractStringBuilder" "maybeLatin1" "Z" (.int 0)) (F_a2_maybeLatin1 : Fld Z h0 a2 "java/lang/AbstractStringBuilder" "maybeLatin1" "Z" (.int 0)) (g_a3 : Z.heap.size ≤ a3) (g_a1 : Z.heap.size ≤ a1) (ne_a1_a2 : a1 ≠ a2) :
    CtrN l Z (⟨"java/lang/AbstractStringBuilder", "append", "(Ljava/lang/CharSequence;)Ljava/lang/AbstractStringBuilder;"⟩ : MethodName) jdk_68_method_25_code 2 (some (.object "java/lang/AbstractStringBuilder")) [] (⟨3, 0, 0, 56⟩ : Room) #[(.ref a1), (.ref a2)] h0 [a1, a3] (fun v h => Fld Z h a1 "java/lang/AbstractStringBuilder" "count" "I" (.int 4) ∧ Fld Z h a1 "java/lang/AbstractStringBuilder" "value" "[B" (.ref a3) ∧ Arv Z h a3 k_a3 .byte (16 : Int32) [(.int x1), (.int x2), (.int x3), (.int 62), (.int 0), (.int 0), (.int 0), (.int 0), (.int 0), (.int 0), (.int 0), (.int 0), (.int 0), (.int 0), (.int 0), (.int 0)] (.int 0) ∧ Fld Z h a1 "java/lang/AbstractStringBuilder" "coder" "B" (.int 0) ∧ Fld Z h a1 "java/lang/AbstractStringBuilder" "maybeLatin1" "Z" (.int 0) ∧ v = some (.ref a1)) := by
  refine CtrN.intro (L0 := #[.val (.ref a1), .val (.ref a2)]) (plainFor_of_name pn0) O0 (own_entry rfl) ?_
  intro p e s m below meth c T0 hy hml hret hlk hnm W0
  refine o_aloadN W0 (pc' := 1) (hb hy d23_0) rfl rfl rfl ?_
  refine o_ifnonnullY W0 (pc' := 9) (hb hy d23_1) (by decide) rfl ?_
  refine o_aloadN W0 (pc' := 10) (hb hy d23_9) rfl rfl rfl ?_
  refine o_instN W0 (w137 hw) E_a2 (own_NSno (w68 hw) (w40 hw) (NS.step (w68 hw) (NS.step (w138 hw) (own_NSr (w139 hw) (w40 hw) (by decide)) (by decide)) (by decide)) (by decide)) (pc' := 13) (hb hy d23_10) rfl ?_
  intro T1 W1
  refine o_ifY W1 (pc' := 25) (hb hy d23_13) (XT.i0_eq_t (by decide)) (by decide) rfl ?_
  refine o_aloadN W1 (pc' := 26) (hb hy d23_25) rfl rfl rfl ?_
  refine o_instY W1 (w140 hw) (Ins.of_exa E_a2 (w18 hw)) (pc' := 29) (hb hy d23_26) rfl ?_
  intro T2 W2
  refine o_ifN W2 (pc' := 32) (hb hy d23_29) (XT.i0_eq_f (by decide)) rfl ?_
  refine o_aloadN W2 (pc' := 33) (hb hy d23_32) rfl rfl rfl ?_
  refine o_aloadN W2 (pc' := 34) (hb hy d23_33) rfl rfl rfl ?_
  refine o_cast W2 (w140 hw) (Ins.of_exa E_a2 (w18 hw)) (pc' := 37) (hb hy d23_34) rfl ?_
  intro T3 W3
  refine o_virtual W3 (y := (⟨"java/lang/AbstractStringBuilder", "append", "(Ljava/lang/AbstractStringBuilder;)Ljava/lang/AbstractStringBuilder;"⟩ : MethodName)) (z := (⟨"java/lang/AbstractStringBuilder", "append", "(Ljava/lang/AbstractStringBuilder;)Ljava/lang/AbstractStringBuilder;"⟩ : MethodName)) (w141 hw) (w142 hw) (o_nf W3 rfl (w144 hw)) (w144 hw) (w143 hw) (by decide) E_a1 (argsL := [(.ref a2)]) (CtrN.back (Wd := 0) W3 (rm100 l Z a0 hw gCS a1 a2 a3 k_a3 x1 x2 x3 a4 k_a4 h0 W3.old E_a2 F_a2_count F_a1_count E_a1 F_a1_value V_a3 F_a1_coder SgCS NgCS F_a2_coder F_a2_value V_a4 g_a3 g_a1 F_a1_maybeLatin1 F_a2_maybeLatin1 ne_a1_a2) (w145 hw) (w19 hw) (by decide) (by decide)) (by rw [hml]; rfl) (lenOf pd6 rfl) (S := []) rfl (by exact Nat.le_of_eq rfl) (pc' := 40) (hb hy d23_37) rfl (cells' := 0) (slots' := 0) rfl rfl (by decide) (by decide) (wy := [a3, a1]) (fun _ _ _ q => ⟨q.1, q.2.1⟩) (allS ⟨g_a3, (Or.inl (List.mem_of_getElem? (i := 1) rfl))⟩ (allS ⟨g_a1, (Or.inl (List.mem_of_getElem? (i := 0) rfl))⟩ all0)) (fun _ _ => trivial) ?_
  intro v4 T4 h4 lo4 W4 K4 q4
  obtain ⟨P4_0, P4_1, P4_2, P4_3, P4_4, rfl⟩ := q4.2.2
  show Gl _ _ _ _ _ _ _ _ [(.ref a1)]
  have c5 := (E_a1.keep K4)
  exact o_retA W4 hlk (v := (.ref a1)) hret rfl rfl (hb hy d23_40) (by decide) (by decide) ⟨P4_0, P4_1, P4_2, P4_3, P4_4, rfl⟩
theorem rm102 (l : Launch) (Z : State) (a0 : Array Value) (hw : ∀ d ∈ tables_1, d.before a0 Z = true) (gCS : Int32) (a1 a2 a3 : Addr) (k_a3 : ClassId) (x1 x2 x3 : Int32) (a4 : Addr) (k_a4 : ClassId) (h0 : Heap) (O0 : Old Z Z.heap.size h0) (E_a2 : Exa Z h0 a2 "java/lang/StringBuilder") (E_a1 : Exa Z h0 a1 "java/lang/StringBuilder") (F_a2_count : Fld Z h0 a2 "java/lang/AbstractStringBuilder" "count" "I" (.int 0)) (F_a1_count : Fld Z h0 a1 "java/lang/AbstractStringBuilder" "count" "I" (.int 4)) (F_a1_value : Fld Z h0 a1 "java/lang/AbstractStringBuilder" "value" "[B" (.ref a3)) (V_a3 : Arv Z h0 a3 k_a3 .byte (16 : Int32) [(.int x1), (.int x2), (.int x3), (.int 62), (.int 0), (.int 0), (.int 0), (.int 0), (.int 0), (.int 0), (.int 0), (.int 0), (.int 0), (.int 0), (.int 0), (.int 0)] (.int 0)) (F_a1_coder : Fld Z h0 a1 "java/lang/AbstractStringBuilder" "coder" "B" (.int 0)) (SgCS : Sta Z Z.heap "java/lang/String" "COMPACT_STRINGS" "Z" (.int gCS)) (NgCS : ¬ (gCS = (0 : Int32))) (F_a2_coder : Fld Z h0 a2 "java/lang/AbstractStringBuilder" "coder" "B" (.int 0)) (F_a2_value : Fld Z h0 a2 "java/lang/AbstractStringBuilder" "value" "[B" (.ref a4)) (V_a4 : Arv Z h0 a4 k_a4 .byte (16 : Int32) [(.int 0), (.int 0), (.int 0), (.int 0), (.int 0), (.int 0), (.int 0), (.int 0), (.int 0), (.int 0), (.int 0), (.int 0), (.int 0), (.int 0), (.int 0), (.int 0)] (.int 0)) (F_a1_maybeLatin1 : Fld Z h0 a1 "java/lang/AbstractStringBuilder" "maybeLatin1" "Z" (.int 0)) (F_a2_maybeLatin1 : Fld Z h0 a2 "java/lang/AbstractStringBuilder" "maybeLatin1" "Z" (.int 0)) (g_a3 : Z.heap.size ≤ a3) (g_a1 : Z.heap.size ≤ a1) (ne_a1_a2 : a1 ≠ a2) :
    CtrN l Z (⟨"java/lang/StringBuilder", "append", "(Ljava/lang/CharSequence;)Ljava/lang/StringBuilder;"⟩ : MethodName) jdk_67_method_9_code 2 (some (.object "java/lang/StringBuilder")) [] (⟨4, 0, 0, 69⟩ : Room) #[(.ref a1), (.ref a2)] h0 [a3, a1] (fun v h => Fld Z h a1 "java/lang/AbstractStringBuilder" "count" "I" (.int 4) ∧ Fld Z h a1 "java/lang/AbstractStringBuilder" "value" "[B" (.ref a3) ∧ Arv Z h a3 k_a3 .byte (16 : Int32) [(.int x1), (.int x2), (.int x3), (.int 62), (.int 0), (.int 0), (.int 0), (.int 0), (.int 0), (.int 0), (.int 0), (.int 0), (.int 0), (.int 0), (.int 0), (.int 0)] (.int 0) ∧ Fld Z h a1 "java/lang/AbstractStringBuilder" "coder" "B" (.int 0) ∧ Fld Z h a1 "java/lang/AbstractStringBuilder" "maybeLatin1" "Z" (.int 0) ∧ v = some (.ref a1)) := by
  refine CtrN.intro (L0 := #[.val (.ref a1), .val (.ref a2)]) (plainFor_of_name pn1) O0 (own_entry rfl) ?_
  intro p e s m below meth c T0 hy hml hret hlk hnm W0
  refine o_aloadN W0 (pc' := 1) (hb hy d22_0) rfl rfl rfl ?_
  refine o_aloadN W0 (pc' := 2) (hb hy d22_1) rfl rfl rfl ?_
  refine o_super W0 (y := (⟨"java/lang/AbstractStringBuilder", "append", "(Ljava/lang/CharSequence;)Ljava/lang/AbstractStringBuilder;"⟩ : MethodName)) (by decide) (w133 hw) (w134 hw) (own_sameM (y := (⟨"java/lang/AbstractStringBuilder", "append", "(Ljava/lang/CharSequence;)Ljava/lang/AbstractStringBuilder;"⟩ : MethodName)) (by decide) (w134 hw) (w138 hw)) (w68 hw) (w136 hw) (Ins.self E_a1) (argsL := [(.ref a2)]) (CtrN.back (Wd := 0) W0 (rm101 l Z a0 hw gCS a1 a2 a3 k_a3 x1 x2 x3 a4 k_a4 h0 W0.old E_a2 E_a1 F_a2_count F_a1_count F_a1_value V_a3 F_a1_coder SgCS NgCS F_a2_coder F_a2_value V_a4 F_a1_maybeLatin1 F_a2_maybeLatin1 g_a3 g_a1 ne_a1_a2) (w136 hw) (w19 hw) (by decide) (by decide)) (by rw [hml]; rfl) (lenOf pd7 rfl) (S := []) rfl (by exact Nat.le_of_eq rfl) (pc' := 5) (hb hy d22_2) rfl (cells' := 0) (slots' := 0) rfl rfl (by decide) (by decide) (wy := [a1, a3]) (fun _ _ _ q => ⟨q.1, q.2.1⟩) (allS ⟨g_a1, (Or.inl (List.mem_of_getElem? (i := 1) rfl))⟩ (allS ⟨g_a3, (Or.inl (List.mem_of_getElem? (i := 0) rfl))⟩ all0)) (fun _ _ => trivial) ?_
  intro v1 T1 h1 lo1 W1 K1 q1
  obtain ⟨P1_0, P1_1, P1_2, P1_3, P1_4, rfl⟩ := q1.2.2
  show Gl _ _ _ _ _ _ _ _ [(.ref a1)]
  refine o_pop W1 (pc' := 6) (hb hy d22_5) rfl rfl ?_
  refine o_aloadN W1 (pc' := 7) (hb hy d22_6) rfl rfl rfl ?_
  have c2 := (E_a1.keep K1)
  exact o_retA W1 hlk (v := (.ref a1)) hret rfl rfl (hb hy d22_7) (by decide) (by decide) ⟨P1_0, P1_1, P1_2, P1_3, P1_4, rfl⟩
theorem rm103 (l : Launch) (Z : State) (a0 : Array Value) (hw : ∀ d ∈ tables_1, d.before a0 Z = true) (gCS : Int32) (a1 a2 a3 a4 a5 : Addr) (k_a5 : ClassId) (x1 x2 x3 : Int32) (a6 : Addr) (k_a6 : ClassId) (h0 : Heap) (O0 : Old Z Z.heap.size h0) (F_a1_out : Fld Z h0 a1 "com/example/colophon/colophon/api/Html" "out" "Ljava/lang/StringBuilder;" (.ref a3)) (F_a2_out : Fld Z h0 a2 "com/example/colophon/colophon/api/Html" "out" "Ljava/lang/StringBuilder;" (.ref a4)) (E_a3 : Exa Z h0 a3 "java/lang/StringBuilder") (E_a4 : Exa Z h0 a4 "java/lang/StringBuilder") (F_a4_count : Fld Z h0 a4 "java/lang/AbstractStringBuilder" "count" "I" (.int 0)) (F_a3_count : Fld Z h0 a3 "java/lang/AbstractStringBuilder" "count" "I" (.int 4)) (F_a3_value : Fld Z h0 a3 "java/lang/AbstractStringBuilder" "value" "[B" (.ref a5)) (V_a5 : Arv Z h0 a5 k_a5 .byte (16 : Int32) [(.int x1), (.int x2), (.int x3), (.int 62), (.int 0), (.int 0), (.int 0), (.int 0), (.int 0), (.int 0), (.int 0), (.int 0), (.int 0), (.int 0), (.int 0), (.int 0)] (.int 0)) (F_a3_coder : Fld Z h0 a3 "java/lang/AbstractStringBuilder" "coder" "B" (.int 0)) (SgCS : Sta Z Z.heap "java/lang/String" "COMPACT_STRINGS" "Z" (.int gCS)) (NgCS : ¬ (gCS = (0 : Int32))) (F_a4_coder : Fld Z h0 a4 "java/lang/AbstractStringBuilder" "coder" "B" (.int 0)) (F_a4_value : Fld Z h0 a4 "java/lang/AbstractStringBuilder" "value" "[B" (.ref a6)) (V_a6 : Arv Z h0 a6 k_a6 .byte (16 : Int32) [(.int 0), (.int 0), (.int 0), (.int 0), (.int 0), (.int 0), (.int 0), (.int 0), (.int 0), (.int 0), (.int 0), (.int 0), (.int 0), (.int 0), (.int 0), (.int 0)] (.int 0)) (F_a3_maybeLatin1 : Fld Z h0 a3 "java/lang/AbstractStringBuilder" "maybeLatin1" "Z" (.int 0)) (F_a4_maybeLatin1 : Fld Z h0 a4 "java/lang/AbstractStringBuilder" "maybeLatin1" "Z" (.int 0)) (g_a5 : Z.heap.size ≤ a5) (g_a3 : Z.heap.size ≤ a3) (ne_a3_a4 : a3 ≠ a4) :
    CtrN l Z (⟨"com/example/colophon/colophon/api/Html", "append", "(Lcom/example/colophon/colophon/api/Html;)Lcom/example/colophon/colophon/api/Html;"⟩ : MethodName) prog_5_method_7_code 2 (some (.object "com/example/colophon/colophon/api/Html")) [] (⟨5, 0, 0, 82⟩ : Room) #[(.ref a1), (.ref a2)] h0 [a3, a5] (fun v h => Fld Z h a3 "java/lang/AbstractStringBuilder" "count" "I" (.int 4) ∧ Fld Z h a3 "java/lang/AbstractStringBuilder" "value" "[B" (.ref a5) ∧ Arv Z h a5 k_a5 .byte (16 : Int32) [(.int x1), (.int x2), (.int x3), (.int 62), (.int 0), (.int 0), (.int 0), (.int 0), (.int 0), (.int 0), (.int 0), (.int 0), (.int 0), (.int 0), (.int 0), (.int 0)] (.int 0) ∧ Fld Z h a3 "java/lang/AbstractStringBuilder" "coder" "B" (.int 0) ∧ Fld Z h a3 "java/lang/AbstractStringBuilder" "maybeLatin1" "Z" (.int 0) ∧ v = some (.ref a1)) := by
  refine CtrN.intro (L0 := #[.val (.ref a1), .val (.ref a2)]) (plainFor_of_name pn2) O0 (own_entry rfl) ?_
  intro p e s m below meth c T0 hy hml hret hlk hnm W0
  refine o_aloadN W0 (pc' := 1) (hb hy d21_0) rfl rfl rfl ?_
  refine o_getF W0 (w29 hw) Via.refl F_a1_out (pc' := 4) (hb hy d21_1) rfl ?_
  intro T1 W1
  refine o_aloadN W1 (pc' := 5) (hb hy d21_4) rfl rfl rfl ?_
  refine o_getF W1 (w29 hw) Via.refl F_a2_out (pc' := 8) (hb hy d21_5) rfl ?_
  intro T2 W2
  refine o_virtual W2 (y := (⟨"java/lang/StringBuilder", "append", "(Ljava/lang/CharSequence;)Ljava/lang/StringBuilder;"⟩ : MethodName)) (z := (⟨"java/lang/StringBuilder", "append", "(Ljava/lang/CharSequence;)Ljava/lang/StringBuilder;"⟩ : MethodName)) (w128 hw) (w129 hw) (o_nf W2 rfl (w131 hw)) (w131 hw) (w130 hw) (by decide) E_a3 (argsL := [(.ref a4)]) (CtrN.back (Wd := 0) W2 (rm102 l Z a0 hw gCS a3 a4 a5 k_a5 x1 x2 x3 a6 k_a6 h0 W2.old E_a4 E_a3 F_a4_count F_a3_count F_a3_value V_a5 F_a3_coder SgCS NgCS F_a4_coder F_a4_value V_a6 F_a3_maybeLatin1 F_a4_maybeLatin1 g_a5 g_a3 ne_a3_a4) (w132 hw) (w11 hw) (by decide) (by decide)) (by rw [hml]; rfl) (lenOf pd8 rfl) (S := []) rfl (by exact Nat.le_of_eq rfl) (pc' := 11) (hb hy d21_8) rfl (cells' := 0) (slots' := 0) rfl rfl (by decide) (by decide) (wy := [a5, a3]) (fun _ _ _ q => ⟨q.1, q.2.1⟩) (allS ⟨g_a5, (Or.inl (List.mem_of_getElem? (i := 1) rfl))⟩ (allS ⟨g_a3, (Or.inl (List.mem_of_getElem? (i := 0) rfl))⟩ all0)) (fun _ _ => trivial) ?_
  intro v3 T3 h3 lo3 W3 K3 q3
  obtain ⟨P3_0, P3_1, P3_2, P3_3, P3_4, rfl⟩ := q3.2.2
  show Gl _ _ _ _ _ _ _ _ [(.ref a3)]
  refine o_pop W3 (pc' := 12) (hb hy d21_11) rfl rfl ?_
  refine o_aloadN W3 (pc' := 13) (hb hy d21_12) rfl rfl rfl ?_
  have c4 := (E_a3.keep K3)
  exact o_retA W3 hlk (v := (.ref a1)) hret rfl rfl (hb hy d21_13) (by decide) (by decide) ⟨P3_0, P3_1, P3_2, P3_3, P3_4, rfl⟩
theorem rm104 (l : Launch) (Z : State) (a0 : Array Value) (hw : ∀ d ∈ tables_1, d.before a0 Z = true) (a1 a2 : Addr) (k_a2 : ClassId) (x1 x2 x3 : Int32) (h0 : Heap) (O0 : Old Z Z.heap.size h0) (F_a1_value : Fld Z h0 a1 "java/lang/AbstractStringBuilder" "value" "[B" (.ref a2)) (V_a2 : Arv Z h0 a2 k_a2 .byte (16 : Int32) [(.int x1), (.int x2), (.int x3), (.int 62), (.int 0), (.int 0), (.int 0), (.int 0), (.int 0), (.int 0), (.int 0), (.int 0), (.int 0), (.int 0), (.int 0), (.int 0)] (.int 0)) (F_a1_coder : Fld Z h0 a1 "java/lang/AbstractStringBuilder" "coder" "B" (.int 0)) :
    CtrN l Z (⟨"java/lang/AbstractStringBuilder", "ensureCapacityInternal", "(I)V"⟩ : MethodName) jdk_68_method_9_code 3 none [] (⟨0, 0, 0, 0⟩ : Room) #[(.ref a1), (.int 8)] h0 [] (fun v h => v = none) := by
  refine CtrN.intro (L0 := #[.val (.ref a1), .val (.int 8), .unset]) (plainFor_of_name pn0) O0 (own_entry rfl) ?_
  intro p e s m below meth c T0 hy hml hret hlk hnm W0
  refine o_aloadN W0 (pc' := 1) (hb hy d14_0) rfl rfl rfl ?_
  refine o_getF W0 (w25 hw) Via.refl F_a1_value (pc' := 4) (hb hy d14_1) rfl ?_
  intro T1 W1
  refine o_len W1 V_a2 (pc' := 5) (hb hy d14_4) rfl ?_
  refine o_aloadN W1 (pc' := 6) (hb hy d14_5) rfl rfl rfl ?_
  refine o_getF W1 (w27 hw) Via.refl F_a1_coder (pc' := 9) (hb hy d14_6) rfl ?_
  intro T2 W2
  refine o_ishr W2 (v := 16) (pc' := 10) (hb hy d14_9) (by decide) rfl ?_
  refine o_istoreN W2 (L' := #[.val (.ref a1), .val (.int 8), .val (.int 16)]) (pc' := 11) (hb hy d14_10) rfl rfl ?_
  refine o_iloadN W2 (pc' := 12) (hb hy d14_11) rfl rfl ?_
  refine o_iloadN W2 (pc' := 13) (hb hy d14_12) rfl rfl ?_
  refine o_isub W2 (v := (-8 : Int32)) (pc' := 14) (hb hy d14_13) (by decide) rfl ?_
  refine o_ifY W2 (pc' := 38) (hb hy d14_14) (XT.i0_le_t (by decide)) (by decide) rfl ?_
  exact o_ret0 W2 hlk hret (hb hy d14_38) (by decide) (by decide) rfl
theorem rm105 (l : Launch) (Z : State) (a0 : Array Value) (hw : ∀ d ∈ tables_1, d.before a0 Z = true) (a1 a2 a3 : Addr) (k_a3 : ClassId) (x1 x2 x3 : Int32) (k_a2 : ClassId) (x4 : Int32) (h0 : Heap) (O0 : Old Z Z.heap.size h0) (F_a1_coder : Fld Z h0 a1 "java/lang/AbstractStringBuilder" "coder" "B" (.int 0)) (F_a1_value : Fld Z h0 a1 "java/lang/AbstractStringBuilder" "value" "[B" (.ref a3)) (F_a1_count : Fld Z h0 a1 "java/lang/AbstractStringBuilder" "count" "I" (.int 4)) (V_a3 : Arv Z h0 a3 k_a3 .byte (16 : Int32) [(.int x1), (.int x2), (.int x3), (.int 62), (.int 0), (.int 0), (.int 0), (.int 0), (.int 0), (.int 0), (.int 0), (.int 0), (.int 0), (.int 0), (.int 0), (.int 0)] (.int 0)) (V_a2 : Arv Z h0 a2 k_a2 .byte (16 : Int32) [(.int x1), (.int x2), (.int x4), (.int 62), (.int 0), (.int 0), (.int 0), (.int 0), (.int 0), (.int 0), (.int 0), (.int 0), (.int 0), (.int 0), (.int 0), (.int 0)] (.int 0)) (g_a2 : Z.heap.size ≤ a2) :
    CtrN l Z (⟨"java/lang/AbstractStringBuilder", "getBytes", "([BIB)V"⟩ : MethodName) jdk_68_method_65_code 4 none [] (⟨1, 0, 0, 27⟩ : Room) #[(.ref a1), (.ref a2), (.int 4), (.int 0)] h0 [a2] (fun v h => Arv Z h a2 k_a2 .byte (16 : Int32) [(.int x1), (.int x2), (.int x4), (.int 62), (.int x1), (.int x2), (.int x3), (.int 62), (.int 0), (.int 0), (.int 0), (.int 0), (.int 0), (.int 0), (.int 0), (.int 0)] (.int 0) ∧ v = none) := by
  refine CtrN.intro (L0 := #[.val (.ref a1), .val (.ref a2), .val (.int 4), .val (.int 0)]) (plainFor_of_name pn0) O0 (own_entry rfl) ?_
  intro p e s m below meth c T0 hy hml hret hlk hnm W0
  refine o_aloadN W0 (pc' := 1) (hb hy d29_0) rfl rfl rfl ?_
  refine o_getF W0 (w27 hw) Via.refl F_a1_coder (pc' := 4) (hb hy d29_1) rfl ?_
  intro T1 W1
  refine o_iloadN W1 (pc' := 5) (hb hy d29_4) rfl rfl ?_
  refine o_icmpN W1 (pc' := 8) (hb hy d29_5) (XT.ii_ne_f (by decide)) rfl ?_
  refine o_aloadN W1 (pc' := 9) (hb hy d29_8) rfl rfl rfl ?_
  refine o_getF W1 (w25 hw) Via.refl F_a1_value (pc' := 12) (hb hy d29_9) rfl ?_
  intro T2 W2
  refine o_iconst W2 (v := 0) (pc' := 13) (hb hy d29_12) rfl rfl ?_
  refine o_aloadN W2 (pc' := 14) (hb hy d29_13) rfl rfl rfl ?_
  refine o_iloadN W2 (pc' := 15) (hb hy d29_14) rfl rfl ?_
  refine o_iloadN W2 (pc' := 16) (hb hy d29_15) rfl rfl ?_
  refine o_ishl W2 (v := 4) (pc' := 17) (hb hy d29_16) (by decide) rfl ?_
  refine o_aloadN W2 (pc' := 18) (hb hy d29_17) rfl rfl rfl ?_
  refine o_getF W2 (w81 hw) Via.refl F_a1_count (pc' := 21) (hb hy d29_18) rfl ?_
  intro T3 W3
  refine o_iloadN W3 (pc' := 22) (hb hy d29_21) rfl rfl ?_
  refine o_ishl W3 (v := 4) (pc' := 23) (hb hy d29_22) (by decide) rfl ?_
  refine o_copy W3 (w169 hw) (w107 hw) (w105 hw) (w106 hw) V_a3 V_a2 (us := [(.int x1), (.int x2), (.int x3), (.int 62)]) (Or.inl ⟨rfl, rfl⟩) (by decide) (by decide) (by decide) (by decide) (by decide) rfl (Nat.le_of_ble_eq_true rfl) (vd' := [(.int x1), (.int x2), (.int x4), (.int 62), (.int x1), (.int x2), (.int x3), (.int 62), (.int 0), (.int 0), (.int 0), (.int 0), (.int 0), (.int 0), (.int 0), (.int 0)]) rfl g_a2 (Or.inl (List.mem_of_getElem? (i := 0) rfl)) (fun _ _ => trivial) (by rw [hml]; rfl) (pc' := 26) (hb hy d29_23) rfl (by decide) 0 (by exact Nat.le_of_eq rfl) (by decide) ?_
  intro T4 h4 lo4 W4 K4 V4
  refine o_goto W4 (pc' := 43) (hb hy d29_26) (by decide) rfl ?_
  exact o_ret0 W4 hlk hret (hb hy d29_43) (by decide) (by decide) ⟨V4, rfl⟩
theorem rm106 (l : Launch) (Z : State) (a0 : Array Value) (hw : ∀ d ∈ tables_1, d.before a0 Z = true) (gCS : Int32) (a1 a2 a3 : Addr) (k_a3 : ClassId) (x1 x2 x3 : Int32) (a4 : Addr) (k_a4 : ClassId) (x4 : Int32) (h0 : Heap) (O0 : Old Z Z.heap.size h0) (E_a2 : Exa Z h0 a2 "java/lang/StringBuilder") (F_a2_count : Fld Z h0 a2 "java/lang/AbstractStringBuilder" "count" "I" (.int 4)) (F_a1_count : Fld Z h0 a1 "java/lang/AbstractStringBuilder" "count" "I" (.int 4)) (E_a1 : Exa Z h0 a1 "java/lang/StringBuilder") (F_a1_value : Fld Z h0 a1 "java/lang/AbstractStringBuilder" "value" "[B" (.ref a3)) (V_a3 : Arv Z h0 a3 k_a3 .byte (16 : Int32) [(.int x1), (.int x2), (.int x3), (.int 62), (.int 0), (.int 0), (.int 0), (.int 0), (.int 0), (.int 0), (.int 0), (.int 0), (.int 0), (.int 0), (.int 0), (.int 0)] (.int 0)) (F_a1_coder : Fld Z h0 a1 "java/lang/AbstractStringBuilder" "coder" "B" (.int 0)) (SgCS : Sta Z Z.heap "java/lang/String" "COMPACT_STRINGS" "Z" (.int gCS)) (NgCS : ¬ (gCS = (0 : Int32))) (F_a2_coder : Fld Z h0 a2 "java/lang/AbstractStringBuilder" "coder" "B" (.int 0)) (F_a2_value : Fld Z h0 a2 "java/lang/AbstractStringBuilder" "value" "[B" (.ref a4)) (V_a4 : Arv Z h0 a4 k_a4 .byte (16 : Int32) [(.int x1), (.int x2), (.int x4), (.int 62), (.int 0), (.int 0), (.int 0), (.int 0), (.int 0), (.int 0), (.int 0), (.int 0), (.int 0), (.int 0), (.int 0), (.int 0)] (.int 0)) (g_a3 : Z.heap.size ≤ a3) (g_a1 : Z.heap.size ≤ a1) (F_a1_maybeLatin1 : Fld Z h0 a1 "java/lang/AbstractStringBuilder" "maybeLatin1" "Z" (.int 0)) (F_a2_maybeLatin1 : Fld Z h0 a2 "java/lang/AbstractStringBuilder" "maybeLatin1" "Z" (.int 0)) (ne_a1_a2 : a1 ≠ a2) :
    CtrN l Z (⟨"java/lang/AbstractStringBuilder", "append", "(Ljava/lang/AbstractStringBuilder;)Ljava/lang/AbstractStringBuilder;"⟩ : MethodName) jdk_68_method_24_code 3 (some (.object "java/lang/AbstractStringBuilder")) [] (⟨2, 0, 0, 42⟩ : Room) #[(.ref a1), (.ref a2)] h0 [a3, a1] (fun v h => Fld Z h a1 "java/lang/AbstractStringBuilder" "count" "I" (.int 8) ∧ Fld Z h a1 "java/lang/AbstractStringBuilder" "value" "[B" (.ref a3) ∧ Arv Z h a3 k_a3 .byte (16 : Int32) [(.int x1), (.int x2), (.int x3), (.int 62), (.int x1), (.int x2), (.int x4), (.int 62), (.int 0), (.int 0), (.int 0), (.int 0), (.int 0), (.int 0), (.int 0), (.int 0)] (.int 0) ∧ Fld Z h a1 "java/lang/AbstractStringBuilder" "coder" "B" (.int 0) ∧ Fld Z h a1 "java/lang/AbstractStringBuilder" "maybeLatin1" "Z" (.int 0) ∧ v = some (.ref a1)) := by
  refine CtrN.intro (L0 := #[.val (.ref a1), .val (.ref a2), .unset]) (plainFor_of_name pn0) O0 (own_entry rfl) ?_
  intro p e s m below meth c T0 hy hml hret hlk hnm W0
  refine o_aloadN W0 (pc' := 1) (hb hy d24_0) rfl rfl rfl ?_
  refine o_ifnonnullY W0 (pc' := 9) (hb hy d24_1) (by decide) rfl ?_
  refine o_aloadN W0 (pc' := 10) (hb hy d24_9) rfl rfl rfl ?_
  refine o_virtual W0 (y := (⟨"java/lang/AbstractStringBuilder", "length", "()I"⟩ : MethodName)) (z := (⟨"java/lang/StringBuilder", "length", "()I"⟩ : MethodName)) (w146 hw) (w147 hw) (nf_super (args := #[]) (mvT W0.2.2.2.1 (w138 hw))) (w149 hw) (w150 hw) (by decide) E_a2 (argsL := []) (CtrN.back (Wd := 0) W0 (rm53 l Z a0 hw a2 h0 W0.old F_a2_count E_a2) (w151 hw) (w11 hw) (by decide) (by decide)) (by rw [hml]; rfl) (lenOf pd2 rfl) (S := []) rfl (by exact Nat.le_of_eq rfl) (pc' := 13) (hb hy d24_10) rfl (cells' := 0) (slots' := 0) rfl rfl (by decide) (by decide) (wy := []) (fun _ _ _ q => ⟨q.1, q.2.1⟩) all0 (fun _ _ => trivial) ?_
  intro v1 T1 h1 lo1 W1 K1 q1
  obtain rfl := q1.2.2
  show Gl _ _ _ _ _ _ _ _ [(.int 4)]
  refine o_istoreN W1 (L' := #[.val (.ref a1), .val (.ref a2), .val (.int 4)]) (pc' := 14) (hb hy d24_13) rfl rfl ?_
  refine o_aloadN W1 (pc' := 15) (hb hy d24_14) rfl rfl rfl ?_
  refine o_aloadN W1 (pc' := 16) (hb hy d24_15) rfl rfl rfl ?_
  have c2 := (F_a1_count.keep K1 nin0)
  refine o_getF W1 (w81 hw) Via.refl c2 (pc' := 19) (hb hy d24_16) rfl ?_
  intro T3 W3
  refine o_iloadN W3 (pc' := 20) (hb hy d24_19) rfl rfl ?_
  refine o_iadd W3 (v := 8) (pc' := 21) (hb hy d24_20) (by decide) rfl ?_
  have c4 := (E_a1.keep K1)
  have c5 := (F_a1_value.keep K1 nin0)
  have c6 := (V_a3.keep K1 nin0)
  have c7 := (F_a1_coder.keep K1 nin0)
  refine o_private W3 (y := (⟨"java/lang/AbstractStringBuilder", "ensureCapacityInternal", "(I)V"⟩ : MethodName)) (w83 hw) (w84 hw) (w86 hw) (w85 hw) (w87 hw) (by decide) c4 (argsL := [(.int 8)]) (CtrN.back (Wd := 0) W3 (rm104 l Z a0 hw a1 a3 k_a3 x1 x2 x3 h1 W3.old c5 c6 c7) (w87 hw) (w19 hw) (by decide) (by decide)) (by rw [hml]; rfl) (lenOf pd0 rfl) (S := []) rfl (by exact Nat.le_of_eq rfl) (pc' := 24) (hb hy d24_21) rfl (cells' := 0) (slots' := 0) rfl rfl (by decide) (by decide) (wy := []) (fun _ _ _ q => ⟨q.1, q.2.1⟩) all0 (fun _ _ => trivial) ?_
  intro v8 T8 h8 lo8 W8 K8 q8
  obtain rfl := q8.2.2
  show Gl _ _ _ _ _ _ _ _ []
  refine o_aloadN W8 (pc' := 25) (hb hy d24_24) rfl rfl rfl ?_
  refine o_aloadN W8 (pc' := 26) (hb hy d24_25) rfl rfl rfl ?_
  have c9 := (c7.keep K8 nin0)
  have c10 := ((F_a2_coder.keep K1 nin0).keep K8 nin0)
  have c11 := ((E_a2.keep K1).keep K8)
  have c12 := (c4.keep K8)
  refine o_private W8 (y := (⟨"java/lang/AbstractStringBuilder", "inflateIfNeededFor", "(Ljava/lang/AbstractStringBuilder;)V"⟩ : MethodName)) (w154 hw) (w155 hw) (w157 hw) (w156 hw) (w158 hw) (by decide) c12 (argsL := [(.ref a2)]) (CtrN.back (Wd := 0) W8 (rm8 l Z a0 hw gCS a1 a2 h8 W8.old SgCS NgCS c9 c11 c10) (w158 hw) (w19 hw) (by decide) (by decide)) (by rw [hml]; rfl) (lenOf pd4 rfl) (S := []) rfl (by exact Nat.le_of_eq rfl) (pc' := 29) (hb hy d24_26) rfl (cells' := 0) (slots' := 0) rfl rfl (by decide) (by decide) (wy := []) (fun _ _ _ q => ⟨q.1, q.2.1⟩) all0 (fun _ _ => trivial) ?_
  intro v13 T13 h13 lo13 W13 K13 q13
  obtain rfl := q13.2.2
  show Gl _ _ _ _ _ _ _ _ []
  refine o_aloadN W13 (pc' := 30) (hb hy d24_29) rfl rfl rfl ?_
  refine o_aloadN W13 (pc' := 31) (hb hy d24_30) rfl rfl rfl ?_
  have c14 := ((c5.keep K8 nin0).keep K13 nin0)
  refine o_getF W13 (w25 hw) Via.refl c14 (pc' := 34) (hb hy d24_31) rfl ?_
  intro T15 W15
  refine o_aloadN W15 (pc' := 35) (hb hy d24_34) rfl rfl rfl ?_
  have c16 := ((c2.keep K8 nin0).keep K13 nin0)
  refine o_getF W15 (w81 hw) Via.refl c16 (pc' := 38) (hb hy d24_35) rfl ?_
  intro T17 W17
  refine o_aloadN W17 (pc' := 39) (hb hy d24_38) rfl rfl rfl ?_
  have c18 := (c9.keep K13 nin0)
  refine o_getF W17 (w27 hw) Via.refl c18 (pc' := 42) (hb hy d24_39) rfl ?_
  intro T19 W19
  have c20 := (c10.keep K13 nin0)
  have c21 := (((F_a2_value.keep K1 nin0).keep K8 nin0).keep K13 nin0)
  have c22 := (((F_a2_count.keep K1 nin0).keep K8 nin0).keep K13 nin0)
  have c23 := (((V_a4.keep K1 nin0).keep K8 nin0).keep K13 nin0)
  have c24 := ((c6.keep K8 nin0).keep K13 nin0)
  have c25 := (c11.keep K13)
  refine o_virtual W19 (y := (⟨"java/lang/AbstractStringBuilder", "getBytes", "([BIB)V"⟩ : MethodName)) (z := (⟨"java/lang/AbstractStringBuilder", "getBytes", "([BIB)V"⟩ : MethodName)) (w164 hw) (w165 hw) (o_nf W19 rfl (w167 hw)) (w167 hw) (w166 hw) (by decide) c25 (argsL := [(.ref a3), (.int 4), (.int 0)]) (CtrN.back (Wd := 0) W19 (rm105 l Z a0 hw a2 a3 a4 k_a4 x1 x2 x4 k_a3 x3 h13 W19.old c20 c21 c22 c23 c24 g_a3) (w168 hw) (w19 hw) (by decide) (by decide)) (by rw [hml]; rfl) (lenOf pd5 rfl) (S := []) rfl (by exact Nat.le_of_eq rfl) (pc' := 45) (hb hy d24_42) rfl (cells' := 0) (slots' := 0) rfl rfl (by decide) (by decide) (wy := [a3]) (fun _ _ _ q => ⟨q.1, q.2.1⟩) (allS ⟨g_a3, (Or.inl (List.mem_of_getElem? (i := 0) rfl))⟩ all0) (fun _ _ => trivial) ?_
  intro v26 T26 h26 lo26 W26 K26 q26
  obtain ⟨P26_0, rfl⟩ := q26.2.2
  show Gl _ _ _ _ _ _ _ _ []
  refine o_aloadN W26 (pc' := 46) (hb hy d24_45) rfl rfl rfl ?_
  refine o_dup W26 (pc' := 47) (hb hy d24_46) rfl rfl ?_
  have c27 := ((c12.keep K13).keep K26)
  have c28 := (c12.keep K13)
  have c29 := (c16.keep K26 (ninS (Exa.neArv c28 c24 (w10 hw)) nin0))
  refine o_getF W26 (w81 hw) Via.refl c29 (pc' := 50) (hb hy d24_47) rfl ?_
  intro T30 W30
  refine o_iloadN W30 (pc' := 51) (hb hy d24_50) rfl rfl ?_
  refine o_iadd W30 (v := 8) (pc' := 52) (hb hy d24_51) (by decide) rfl ?_
  refine o_putF W30 (w81 hw) Via.refl c29 c27 (Or.inl (w82 hw)) (w10 hw) (ty := .int) (v' := (.int 8)) (by decide) rfl rfl g_a1 (Or.inl (List.mem_of_getElem? (i := 1) rfl)) (fun _ _ => trivial) (pc' := 55) (hb hy d24_52) rfl ?_
  intro T31 h31 lo31 W31 R31
  have F31 := c29.same R31
  refine o_aloadN W31 (pc' := 56) (hb hy d24_55) rfl rfl rfl ?_
  refine o_dup W31 (pc' := 57) (hb hy d24_56) rfl rfl ?_
  have c32 := (c27.wr R31)
  have c33 := (((((F_a1_maybeLatin1.keep K1 nin0).keep K8 nin0).keep K13 nin0).keep K26 (ninS (Exa.neArv c28 c24 (w10 hw)) nin0)).other R31 (Or.inr (slot_ne (Or.inl (w171 hw)) (Or.inl (w82 hw)) (by decide) (t := .boolean) (t' := .int) (by decide) (by decide))))
  refine o_getF W31 (w170 hw) Via.refl c33 (pc' := 60) (hb hy d24_57) rfl ?_
  intro T34 W34
  refine o_aloadN W34 (pc' := 61) (hb hy d24_60) rfl rfl rfl ?_
  have c35 := ((c25.keep K26).wr R31)
  have c36 := (((((F_a2_maybeLatin1.keep K1 nin0).keep K8 nin0).keep K13 nin0).keep K26 (ninS (Exa.neArv c25 c24 (w10 hw)) nin0)).other R31 (Or.inl (Ne.symm ne_a1_a2)))
  refine o_getF W34 (w170 hw) Via.refl c36 (pc' := 64) (hb hy d24_61) rfl ?_
  intro T37 W37
  refine o_ior W37 (v := 0) (pc' := 65) (hb hy d24_64) (by decide) rfl ?_
  refine o_putF W37 (w170 hw) Via.refl c33 c32 (Or.inl (w171 hw)) (w10 hw) (ty := .boolean) (v' := (.int 0)) (by decide) rfl (by decide) g_a1 (Or.inl (List.mem_of_getElem? (i := 1) rfl)) (fun _ _ => trivial) (pc' := 68) (hb hy d24_65) rfl ?_
  intro T38 h38 lo38 W38 R38
  have F38 := c33.same R38
  refine o_aloadN W38 (pc' := 69) (hb hy d24_68) rfl rfl rfl ?_
  have c39 := (F31.other R38 (Or.inr (slot_ne (Or.inl (w82 hw)) (Or.inl (w171 hw)) (by decide) (t := .int) (t' := .boolean) (by decide) (by decide))))
  have c40 := (c32.wr R38)
  have c41 := (((c14.keep K26 (ninS (Exa.neArv c28 c24 (w10 hw)) nin0)).other R31 (Or.inr (slot_ne (Or.inl (w26 hw)) (Or.inl (w82 hw)) (by decide) (t := (.array .byte)) (t' := .int) (by decide) (by decide)))).other R38 (Or.inr (slot_ne (Or.inl (w26 hw)) (Or.inl (w171 hw)) (by decide) (t := (.array .byte)) (t' := .boolean) (by decide) (by decide))))
  have c42 := (((c18.keep K26 (ninS (Exa.neArv c28 c24 (w10 hw)) nin0)).other R31 (Or.inr (slot_ne (Or.inl (w28 hw)) (Or.inl (w82 hw)) (by decide) (t := .byte) (t' := .int) (by decide) (by decide)))).other R38 (Or.inr (slot_ne (Or.inl (w28 hw)) (Or.inl (w171 hw)) (by decide) (t := .byte) (t' := .boolean) (by decide) (by decide))))
  have c43 := (P26_0.other R31 (Ne.symm (Exa.neArv c27 P26_0 (w10 hw))))
  have c44 := ((P26_0.other R31 (Ne.symm (Exa.neArv c27 P26_0 (w10 hw)))).other R38 (Ne.symm (Exa.neArv c32 c43 (w10 hw))))
  exact o_retA W38 hlk (v := (.ref a1)) hret rfl rfl (hb hy d24_69) (by decide) (by decide) ⟨c39, c41, c44, c42, F38, rfl⟩
theorem rm107 (l : Launch) (Z : State) (a0 : Array Value) (hw : ∀ d ∈ tables_1, d.before a0 Z = true) (gCS : Int32) (a1 a2 a3 : Addr) (k_a3 : ClassId) (x1 x2 x3 : Int32) (a4 : Addr) (k_a4 : ClassId) (x4 : Int32) (h0 : Heap) (O0 : Old Z Z.heap.size h0) (E_a2 : Exa Z h0 a2 "java/lang/StringBuilder") (E_a1 : Exa Z h0 a1 "java/lang/StringBuilder") (F_a2_count : Fld Z h0 a2 "java/lang/AbstractStringBuilder" "count" "I" (.int 4)) (F_a1_count : Fld Z h0 a1 "java/lang/AbstractStringBuilder" "count" "I" (.int 4)) (F_a1_value : Fld Z h0 a1 "java/lang/AbstractStringBuilder" "value" "[B" (.ref a3)) (V_a3 : Arv Z h0 a3 k_a3 .byte (16 : Int32) [(.int x1), (.int x2), (.int x3), (.int 62), (.int 0), (.int 0), (.int 0), (.int 0), (.int 0), (.int 0), (.int 0), (.int 0), (.int 0), (.int 0), (.int 0), (.int 0)] (.int 0)) (F_a1_coder : Fld Z h0 a1 "java/lang/AbstractStringBuilder" "coder" "B" (.int 0)) (SgCS : Sta Z Z.heap "java/lang/String" "COMPACT_STRINGS" "Z" (.int gCS)) (NgCS : ¬ (gCS = (0 : Int32))) (F_a2_coder : Fld Z h0 a2 "java/lang/AbstractStringBuilder" "coder" "B" (.int 0)) (F_a2_value : Fld Z h0 a2 "java/lang/AbstractStringBuilder" "value" "[B" (.ref a4)) (V_a4 : Arv Z h0 a4 k_a4 .byte (16 : Int32) [(.int x1), (.int x2), (.int x4), (.int 62), (.int 0), (.int 0), (.int 0), (.int 0), (.int 0), (.int 0), (.int 0), (.int 0), (.int 0), (.int 0), (.int 0), (.int 0)] (.int 0)) (F_a1_maybeLatin1 : Fld Z h0 a1 "java/lang/AbstractStringBuilder" "maybeLatin1" "Z" (.int 0)) (F_a2_maybeLatin1 : Fld Z h0 a2 "java/lang/AbstractStringBuilder" "maybeLatin1" "Z" (.int 0)) (g_a3 : Z.heap.size ≤ a3) (g_a1 : Z.heap.size ≤ a1) (ne_a1_a2 : a1 ≠ a2) :
    CtrN l Z (⟨"java/lang/AbstractStringBuilder", "append", "(Ljava/lang/CharSequence;)Ljava/lang/AbstractStringBuilder;"⟩ : MethodName) jdk_68_method_25_code 2 (some (.object "java/lang/AbstractStringBuilder")) [] (⟨3, 0, 0, 56⟩ : Room) #[(.ref a1), (.ref a2)] h0 [a1, a3] (fun v h => Fld Z h a1 "java/lang/AbstractStringBuilder" "count" "I" (.int 8) ∧ Fld Z h a1 "java/lang/AbstractStringBuilder" "value" "[B" (.ref a3) ∧ Arv Z h a3 k_a3 .byte (16 : Int32) [(.int x1), (.int x2), (.int x3), (.int 62), (.int x1), (.int x2), (.int x4), (.int 62), (.int 0), (.int 0), (.int 0), (.int 0), (.int 0), (.int 0), (.int 0), (.int 0)] (.int 0) ∧ Fld Z h a1 "java/lang/AbstractStringBuilder" "coder" "B" (.int 0) ∧ Fld Z h a1 "java/lang/AbstractStringBuilder" "maybeLatin1" "Z" (.int 0) ∧ v = some (.ref a1)) := by
  refine CtrN.intro (L0 := #[.val (.ref a1), .val (.ref a2)]) (plainFor_of_name pn0) O0 (own_entry rfl) ?_
  intro p e s m below meth c T0 hy hml hret hlk hnm W0
  refine o_aloadN W0 (pc' := 1) (hb hy d23_0) rfl rfl rfl ?_
  refine o_ifnonnullY W0 (pc' := 9) (hb hy d23_1) (by decide) rfl ?_
  refine o_aloadN W0 (pc' := 10) (hb hy d23_9) rfl rfl rfl ?_
  refine o_instN W0 (w137 hw) E_a2 (own_NSno (w68 hw) (w40 hw) (NS.step (w68 hw) (NS.step (w138 hw) (own_NSr (w139 hw) (w40 hw) (by decide)) (by decide)) (by decide)) (by decide)) (pc' := 13) (hb hy d23_10) rfl ?_
  intro T1 W1
  refine o_ifY W1 (pc' := 25) (hb hy d23_13) (XT.i0_eq_t (by decide)) (by decide) rfl ?_
  refine o_aloadN W1 (pc' := 26) (hb hy d23_25) rfl rfl rfl ?_
  refine o_instY W1 (w140 hw) (Ins.of_exa E_a2 (w18 hw)) (pc' := 29) (hb hy d23_26) rfl ?_
  intro T2 W2
  refine o_ifN W2 (pc' := 32) (hb hy d23_29) (XT.i0_eq_f (by decide)) rfl ?_
  refine o_aloadN W2 (pc' := 33) (hb hy d23_32) rfl rfl rfl ?_
  refine o_aloadN W2 (pc' := 34) (hb hy d23_33) rfl rfl rfl ?_
  refine o_cast W2 (w140 hw) (Ins.of_exa E_a2 (w18 hw)) (pc' := 37) (hb hy d23_34) rfl ?_
  intro T3 W3
  refine o_virtual W3 (y := (⟨"java/lang/AbstractStringBuilder", "append", "(Ljava/lang/AbstractStringBuilder;)Ljava/lang/AbstractStringBuilder;"⟩ : MethodName)) (z := (⟨"java/lang/AbstractStringBuilder", "append", "(Ljava/lang/AbstractStringBuilder;)Ljava/lang/AbstractStringBuilder;"⟩ : MethodName)) (w141 hw) (w142 hw) (o_nf W3 rfl (w144 hw)) (w144 hw) (w143 hw) (by decide) E_a1 (argsL := [(.ref a2)]) (CtrN.back (Wd := 0) W3 (rm106 l Z a0 hw gCS a1 a2 a3 k_a3 x1 x2 x3 a4 k_a4 x4 h0 W3.old E_a2 F_a2_count F_a1_count E_a1 F_a1_value V_a3 F_a1_coder SgCS NgCS F_a2_coder F_a2_value V_a4 g_a3 g_a1 F_a1_maybeLatin1 F_a2_maybeLatin1 ne_a1_a2) (w145 hw) (w19 hw) (by decide) (by decide)) (by rw [hml]; rfl) (lenOf pd6 rfl) (S := []) rfl (by exact Nat.le_of_eq rfl) (pc' := 40) (hb hy d23_37) rfl (cells' := 0) (slots' := 0) rfl rfl (by decide) (by decide) (wy := [a3, a1]) (fun _ _ _ q => ⟨q.1, q.2.1⟩) (allS ⟨g_a3, (Or.inl (List.mem_of_getElem? (i := 1) rfl))⟩ (allS ⟨g_a1, (Or.inl (List.mem_of_getElem? (i := 0) rfl))⟩ all0)) (fun _ _ => trivial) ?_
  intro v4 T4 h4 lo4 W4 K4 q4
  obtain ⟨P4_0, P4_1, P4_2, P4_3, P4_4, rfl⟩ := q4.2.2
  show Gl _ _ _ _ _ _ _ _ [(.ref a1)]
  have c5 := (E_a1.keep K4)
  exact o_retA W4 hlk (v := (.ref a1)) hret rfl rfl (hb hy d23_40) (by decide) (by decide) ⟨P4_0, P4_1, P4_2, P4_3, P4_4, rfl⟩
theorem rm108 (l : Launch) (Z : State) (a0 : Array Value) (hw : ∀ d ∈ tables_1, d.before a0 Z = true) (gCS : Int32) (a1 a2 a3 : Addr) (k_a3 : ClassId) (x1 x2 x3 : Int32) (a4 : Addr) (k_a4 : ClassId) (x4 : Int32) (h0 : Heap) (O0 : Old Z Z.heap.size h0) (E_a2 : Exa Z h0 a2 "java/lang/StringBuilder") (E_a1 : Exa Z h0 a1 "java/lang/StringBuilder") (F_a2_count : Fld Z h0 a2 "java/lang/AbstractStringBuilder" "count" "I" (.int 4)) (F_a1_count : Fld Z h0 a1 "java/lang/AbstractStringBuilder" "count" "I" (.int 4)) (F_a1_value : Fld Z h0 a1 "java/lang/AbstractStringBuilder" "value" "[B" (.ref a3)) (V_a3 : Arv Z h0 a3 k_a3 .byte (16 : Int32) [(.int x1), (.int x2), (.int x3), (.int 62), (.int 0), (.int 0), (.int 0), (.int 0), (.int 0), (.int 0), (.int 0), (.int 0), (.int 0), (.int 0), (.int 0), (.int 0)] (.int 0)) (F_a1_coder : Fld Z h0 a1 "java/lang/AbstractStringBuilder" "coder" "B" (.int 0)) (SgCS : Sta Z Z.heap "java/lang/String" "COMPACT_STRINGS" "Z" (.int gCS)) (NgCS : ¬ (gCS = (0 : Int32))) (F_a2_coder : Fld Z h0 a2 "java/lang/AbstractStringBuilder" "coder" "B" (.int 0)) (F_a2_value : Fld Z h0 a2 "java/lang/AbstractStringBuilder" "value" "[B" (.ref a4)) (V_a4 : Arv Z h0 a4 k_a4 .byte (16 : Int32) [(.int x1), (.int x2), (.int x4), (.int 62), (.int 0), (.int 0), (.int 0), (.int 0), (.int 0), (.int 0), (.int 0), (.int 0), (.int 0), (.int 0), (.int 0), (.int 0)] (.int 0)) (F_a1_maybeLatin1 : Fld Z h0 a1 "java/lang/AbstractStringBuilder" "maybeLatin1" "Z" (.int 0)) (F_a2_maybeLatin1 : Fld Z h0 a2 "java/lang/AbstractStringBuilder" "maybeLatin1" "Z" (.int 0)) (g_a3 : Z.heap.size ≤ a3) (g_a1 : Z.heap.size ≤ a1) (ne_a1_a2 : a1 ≠ a2) :
    CtrN l Z (⟨"java/lang/StringBuilder", "append", "(Ljava/lang/CharSequence;)Ljava/lang/StringBuilder;"⟩ : MethodName) jdk_67_method_9_code 2 (some (.object "java/lang/StringBuilder")) [] (⟨4, 0, 0, 69⟩ : Room) #[(.ref a1), (.ref a2)] h0 [a3, a1] (fun v h => Fld Z h a1 "java/lang/AbstractStringBuilder" "count" "I" (.int 8) ∧ Fld Z h a1 "java/lang/AbstractStringBuilder" "value" "[B" (.ref a3) ∧ Arv Z h a3 k_a3 .byte (16 : Int32) [(.int x1), (.int x2), (.int x3), (.int 62), (.int x1), (.int x2), (.int x4), (.int 62), (.int 0), (.int 0), (.int 0), (.int 0), (.int 0), (.int 0), (.int 0), (.int 0)] (.int 0) ∧ Fld Z h a1 "java/lang/AbstractStringBuilder" "coder" "B" (.int 0) ∧ Fld Z h a1 "java/lang/AbstractStringBuilder" "maybeLatin1" "Z" (.int 0) ∧ v = some (.ref a1)) := by
  refine CtrN.intro (L0 := #[.val (.ref a1), .val (.ref a2)]) (plainFor_of_name pn1) O0 (own_entry rfl) ?_
  intro p e s m below meth c T0 hy hml hret hlk hnm W0
  refine o_aloadN W0 (pc' := 1) (hb hy d22_0) rfl rfl rfl ?_
  refine o_aloadN W0 (pc' := 2) (hb hy d22_1) rfl rfl rfl ?_
  refine o_super W0 (y := (⟨"java/lang/AbstractStringBuilder", "append", "(Ljava/lang/CharSequence;)Ljava/lang/AbstractStringBuilder;"⟩ : MethodName)) (by decide) (w133 hw) (w134 hw) (own_sameM (y := (⟨"java/lang/AbstractStringBuilder", "append", "(Ljava/lang/CharSequence;)Ljava/lang/AbstractStringBuilder;"⟩ : MethodName)) (by decide) (w134 hw) (w138 hw)) (w68 hw) (w136 hw) (Ins.self E_a1) (argsL := [(.ref a2)]) (CtrN.back (Wd := 0) W0 (rm107 l Z a0 hw gCS a1 a2 a3 k_a3 x1 x2 x3 a4 k_a4 x4 h0 W0.old E_a2 E_a1 F_a2_count F_a1_count F_a1_value V_a3 F_a1_coder SgCS NgCS F_a2_coder F_a2_value V_a4 F_a1_maybeLatin1 F_a2_maybeLatin1 g_a3 g_a1 ne_a1_a2) (w136 hw) (w19 hw) (by decide) (by decide)) (by rw [hml]; rfl) (lenOf pd7 rfl) (S := []) rfl (by exact Nat.le_of_eq rfl) (pc' := 5) (hb hy d22_2) rfl (cells' := 0) (slots' := 0) rfl rfl (by decide) (by decide) (wy := [a1, a3]) (fun _ _ _ q => ⟨q.1, q.2.1⟩) (allS ⟨g_a1, (Or.inl (List.mem_of_getElem? (i := 1) rfl))⟩ (allS ⟨g_a3, (Or.inl (List.mem_of_getElem? (i := 0) rfl))⟩ all0)) (fun _ _ => trivial) ?_
  intro v1 T1 h1 lo1 W1 K1 q1
  obtain ⟨P1_0, P1_1, P1_2, P1_3, P1_4, rfl⟩ := q1.2.2
  show Gl _ _ _ _ _ _ _ _ [(.ref a1)]
  refine o_pop W1 (pc' := 6) (hb hy d22_5) rfl rfl ?_
  refine o_aloadN W1 (pc' := 7) (hb hy d22_6) rfl rfl rfl ?_
  have c2 := (E_a1.keep K1)
  exact o_retA W1 hlk (v := (.ref a1)) hret rfl rfl (hb hy d22_7) (by decide) (by decide) ⟨P1_0, P1_1, P1_2, P1_3, P1_4, rfl⟩
theorem rm109 (l : Launch) (Z : State) (a0 : Array Value) (hw : ∀ d ∈ tables_1, d.before a0 Z = true) (gCS : Int32) (a1 a2 a3 a4 a5 : Addr) (k_a5 : ClassId) (x1 x2 x3 : Int32) (a6 : Addr) (k_a6 : ClassId) (x4 : Int32) (h0 : Heap) (O0 : Old Z Z.heap.size h0) (F_a1_out : Fld Z h0 a1 "com/example/colophon/colophon/api/Html" "out" "Ljava/lang/StringBuilder;" (.ref a3)) (F_a2_out : Fld Z h0 a2 "com/example/colophon/colophon/api/Html" "out" "Ljava/lang/StringBuilder;" (.ref a4)) (E_a3 : Exa Z h0 a3 "java/lang/StringBuilder") (E_a4 : Exa Z h0 a4 "java/lang/StringBuilder") (F_a4_count : Fld Z h0 a4 "java/lang/AbstractStringBuilder" "count" "I" (.int 4)) (F_a3_count : Fld Z h0 a3 "java/lang/AbstractStringBuilder" "count" "I" (.int 4)) (F_a3_value : Fld Z h0 a3 "java/lang/AbstractStringBuilder" "value" "[B" (.ref a5)) (V_a5 : Arv Z h0 a5 k_a5 .byte (16 : Int32) [(.int x1), (.int x2), (.int x3), (.int 62), (.int 0), (.int 0), (.int 0), (.int 0), (.int 0), (.int 0), (.int 0), (.int 0), (.int 0), (.int 0), (.int 0), (.int 0)] (.int 0)) (F_a3_coder : Fld Z h0 a3 "java/lang/AbstractStringBuilder" "coder" "B" (.int 0)) (SgCS : Sta Z Z.heap "java/lang/String" "COMPACT_STRINGS" "Z" (.int gCS)) (NgCS : ¬ (gCS = (0 : Int32))) (F_a4_coder : Fld Z h0 a4 "java/lang/AbstractStringBuilder" "coder" "B" (.int 0)) (F_a4_value : Fld Z h0 a4 "java/lang/AbstractStringBuilder" "value" "[B" (.ref a6)) (V_a6 : Arv Z h0 a6 k_a6 .byte (16 : Int32) [(.int x1), (.int x2), (.int x4), (.int 62), (.int 0), (.int 0), (.int 0), (.int 0), (.int 0), (.int 0), (.int 0), (.int 0), (.int 0), (.int 0), (.int 0), (.int 0)] (.int 0)) (F_a3_maybeLatin1 : Fld Z h0 a3 "java/lang/AbstractStringBuilder" "maybeLatin1" "Z" (.int 0)) (F_a4_maybeLatin1 : Fld Z h0 a4 "java/lang/AbstractStringBuilder" "maybeLatin1" "Z" (.int 0)) (g_a5 : Z.heap.size ≤ a5) (g_a3 : Z.heap.size ≤ a3) (ne_a3_a4 : a3 ≠ a4) :
    CtrN l Z (⟨"com/example/colophon/colophon/api/Html", "append", "(Lcom/example/colophon/colophon/api/Html;)Lcom/example/colophon/colophon/api/Html;"⟩ : MethodName) prog_5_method_7_code 2 (some (.object "com/example/colophon/colophon/api/Html")) [] (⟨5, 0, 0, 82⟩ : Room) #[(.ref a1), (.ref a2)] h0 [a3, a5] (fun v h => Fld Z h a3 "java/lang/AbstractStringBuilder" "count" "I" (.int 8) ∧ Fld Z h a3 "java/lang/AbstractStringBuilder" "value" "[B" (.ref a5) ∧ Arv Z h a5 k_a5 .byte (16 : Int32) [(.int x1), (.int x2), (.int x3), (.int 62), (.int x1), (.int x2), (.int x4), (.int 62), (.int 0), (.int 0), (.int 0), (.int 0), (.int 0), (.int 0), (.int 0), (.int 0)] (.int 0) ∧ Fld Z h a3 "java/lang/AbstractStringBuilder" "coder" "B" (.int 0) ∧ Fld Z h a3 "java/lang/AbstractStringBuilder" "maybeLatin1" "Z" (.int 0) ∧ v = some (.ref a1)) := by
  refine CtrN.intro (L0 := #[.val (.ref a1), .val (.ref a2)]) (plainFor_of_name pn2) O0 (own_entry rfl) ?_
  intro p e s m below meth c T0 hy hml hret hlk hnm W0
  refine o_aloadN W0 (pc' := 1) (hb hy d21_0) rfl rfl rfl ?_
  refine o_getF W0 (w29 hw) Via.refl F_a1_out (pc' := 4) (hb hy d21_1) rfl ?_
  intro T1 W1
  refine o_aloadN W1 (pc' := 5) (hb hy d21_4) rfl rfl rfl ?_
  refine o_getF W1 (w29 hw) Via.refl F_a2_out (pc' := 8) (hb hy d21_5) rfl ?_
  intro T2 W2
  refine o_virtual W2 (y := (⟨"java/lang/StringBuilder", "append", "(Ljava/lang/CharSequence;)Ljava/lang/StringBuilder;"⟩ : MethodName)) (z := (⟨"java/lang/StringBuilder", "append", "(Ljava/lang/CharSequence;)Ljava/lang/StringBuilder;"⟩ : MethodName)) (w128 hw) (w129 hw) (o_nf W2 rfl (w131 hw)) (w131 hw) (w130 hw) (by decide) E_a3 (argsL := [(.ref a4)]) (CtrN.back (Wd := 0) W2 (rm108 l Z a0 hw gCS a3 a4 a5 k_a5 x1 x2 x3 a6 k_a6 x4 h0 W2.old E_a4 E_a3 F_a4_count F_a3_count F_a3_value V_a5 F_a3_coder SgCS NgCS F_a4_coder F_a4_value V_a6 F_a3_maybeLatin1 F_a4_maybeLatin1 g_a5 g_a3 ne_a3_a4) (w132 hw) (w11 hw) (by decide) (by decide)) (by rw [hml]; rfl) (lenOf pd8 rfl) (S := []) rfl (by exact Nat.le_of_eq rfl) (pc' := 11) (hb hy d21_8) rfl (cells' := 0) (slots' := 0) rfl rfl (by decide) (by decide) (wy := [a5, a3]) (fun _ _ _ q => ⟨q.1, q.2.1⟩) (allS ⟨g_a5, (Or.inl (List.mem_of_getElem? (i := 1) rfl))⟩ (allS ⟨g_a3, (Or.inl (List.mem_of_getElem? (i := 0) rfl))⟩ all0)) (fun _ _ => trivial) ?_
  intro v3 T3 h3 lo3 W3 K3 q3
  obtain ⟨P3_0, P3_1, P3_2, P3_3, P3_4, rfl⟩ := q3.2.2
  show Gl _ _ _ _ _ _ _ _ [(.ref a3)]
  refine o_pop W3 (pc' := 12) (hb hy d21_11) rfl rfl ?_
  refine o_aloadN W3 (pc' := 13) (hb hy d21_12) rfl rfl rfl ?_
  have c4 := (E_a3.keep K3)
  exact o_retA W3 hlk (v := (.ref a1)) hret rfl rfl (hb hy d21_13) (by decide) (by decide) ⟨P3_0, P3_1, P3_2, P3_3, P3_4, rfl⟩
theorem rm_law (l : Launch) (Z : State) (a0 : Array Value) (hw : ∀ d ∈ tables_1, d.before a0 Z = true) (gCS p0 p1 p2 p3 : Int32) (h0 : Heap) (O0 : Old Z Z.heap.size h0) (SgCS : Sta Z Z.heap "java/lang/String" "COMPACT_STRINGS" "Z" (.int gCS)) (NgCS : ¬ (gCS = (0 : Int32))) :
    CtrW l Z consts_1 x code maxLocals ret tables_1 room_1 #[(.int p0), (.int p1), (.int p2), (.int p3)] h0 [] (fun v _ => v = some (.int 1)) := by
  refine CtrW.intro (L0 := #[.val (.int p0), .val (.int p1), .val (.int p2), .val (.int p3), .unset, .unset, .unset, .unset, .unset, .unset, .unset, .unset, .unset, .unset, .unset, .unset, .unset]) (plainFor_of_name pn5) O0 (own_entry rfl) ?_
  intro p e s m below meth c T0 V0 hy hml hret hlk hnm W0
  refine o_iloadN W0 (pc' := 1) (hb hy at_0) rfl rfl ?_
  refine o_iconst W0 (v := 1) (pc' := 2) (hb hy at_1) rfl rfl ?_
  refine o_iand W0 (v := (p3 &&& (1 : Int32))) (pc' := 3) (hb hy at_2) rfl rfl ?_
  by_cases hq1 : (p3 &&& (1 : Int32)) = (0 : Int32)
  · refine o_ifY W0 (pc' := 10) (hb hy at_3) (XT.i0_eq_t hq1) (by decide) rfl ?_
    refine o_iconst W0 (v := 0) (pc' := 11) (hb hy at_10) rfl rfl ?_
    refine o_istore W0 (L' := #[.val (.int p0), .val (.int p1), .val (.int p2), .val (.int p3), .val (.int 0), .unset, .unset, .unset, .unset, .unset, .unset, .unset, .unset, .unset, .unset, .unset, .unset]) (pc' := 13) (hb hy at_11) rfl rfl ?_
    refine o_iloadN W0 (pc' := 14) (hb hy at_13) rfl rfl ?_
    refine o_iconst W0 (v := 2) (pc' := 15) (hb hy at_14) rfl rfl ?_
    refine o_iand W0 (v := (p3 &&& (2 : Int32))) (pc' := 16) (hb hy at_15) rfl rfl ?_
    by_cases hq2 : (p3 &&& (2 : Int32)) = (0 : Int32)
    · refine o_ifY W0 (pc' := 23) (hb hy at_16) (XT.i0_eq_t hq2) (by decide) rfl ?_
      refine o_iconst W0 (v := 0) (pc' := 24) (hb hy at_23) rfl rfl ?_
      refine o_istore W0 (L' := #[.val (.int p0), .val (.int p1), .val (.int p2), .val (.int p3), .val (.int 0), .val (.int 0), .unset, .unset, .unset, .unset, .unset, .unset, .unset, .unset, .unset, .unset, .unset]) (pc' := 26) (hb hy at_24) rfl rfl ?_
      refine o_iloadN W0 (pc' := 27) (hb hy at_26) rfl rfl ?_
      refine o_sipush W0 (v := 255) (pc' := 30) (hb hy at_27) (by decide) rfl ?_
      refine o_iand W0 (v := (p0 &&& (255 : Int32))) (pc' := 31) (hb hy at_30) rfl rfl ?_
      refine o_i2c W0 (v := (p0 &&& (255 : Int32))) (pc' := 32) (hb hy at_31) (own_i2c (own_b255 _)) rfl ?_
      refine o_istore W0 (L' := #[.val (.int p0), .val (.int p1), .val (.int p2), .val (.int p3), .val (.int 0), .val (.int 0), .val (.int (p0 &&& (255 : Int32))), .unset, .unset, .unset, .unset, .unset, .unset, .unset, .unset, .unset, .unset]) (pc' := 34) (hb hy at_32) rfl rfl ?_
      refine o_iloadN W0 (pc' := 35) (hb hy at_34) rfl rfl ?_
      refine o_sipush W0 (v := 255) (pc' := 38) (hb hy at_35) (by decide) rfl ?_
      refine o_iand W0 (v := (p1 &&& (255 : Int32))) (pc' := 39) (hb hy at_38) rfl rfl ?_
      refine o_i2c W0 (v := (p1 &&& (255 : Int32))) (pc' := 40) (hb hy at_39) (own_i2c (own_b255 _)) rfl ?_
      refine o_istore W0 (L' := #[.val (.int p0), .val (.int p1), .val (.int p2), .val (.int p3), .val (.int 0), .val (.int 0), .val (.int (p0 &&& (255 : Int32))), .val (.int (p1 &&& (255 : Int32))), .unset, .unset, .unset, .unset, .unset, .unset, .unset, .unset, .unset]) (pc' := 42) (hb hy at_40) rfl rfl ?_
      refine o_iloadN W0 (pc' := 43) (hb hy at_42) rfl rfl ?_
      refine o_sipush W0 (v := 255) (pc' := 46) (hb hy at_43) (by decide) rfl ?_
      refine o_iand W0 (v := (p2 &&& (255 : Int32))) (pc' := 47) (hb hy at_46) rfl rfl ?_
      refine o_i2c W0 (v := (p2 &&& (255 : Int32))) (pc' := 48) (hb hy at_47) (own_i2c (own_b255 _)) rfl ?_
      refine o_istore W0 (L' := #[.val (.int p0), .val (.int p1), .val (.int p2), .val (.int p3), .val (.int 0), .val (.int 0), .val (.int (p0 &&& (255 : Int32))), .val (.int (p1 &&& (255 : Int32))), .val (.int (p2 &&& (255 : Int32))), .unset, .unset, .unset, .unset, .unset, .unset, .unset, .unset]) (pc' := 50) (hb hy at_48) rfl rfl ?_
      refine o_new W0 (w0 hw) (w1 hw) (w2 hw) (fun _ E => IW.ext E W0.inv) (pc' := 53) (hb hy at_50) rfl (cells' := 1) (slots' := 1) rfl rfl (by decide) (by decide) ?_
      intro b3 T3 h3 W3 E3 ge3 gz3 gb3 A3 D3
      have Fb3_out : Fld Z h3 b3 "com/example/colophon/colophon/api/Html" "out" "Ljava/lang/StringBuilder;" .null := D3 (Or.inr (w30 hw)) (ty := (.object "java/lang/StringBuilder")) (by decide)
      refine o_dup W3 (pc' := 54) (hb hy at_53) rfl rfl ?_
      refine o_special W3 (y := (⟨"com/example/colophon/colophon/api/Html", "<init>", "()V"⟩ : MethodName)) rfl (w3 hw) (w4 hw) (w5 hw) (by decide) (a := b3) (argsL := []) (CtrN.back (Wd := 1) W3 (rm3 l Z a0 hw gCS b3 h3 W3.old SgCS NgCS A3 Fb3_out gz3) (w5 hw) (w2 hw) (by decide) (by decide)) (by rw [hml]; rfl) (lenOf pd1 rfl) (S := [(.ref b3)]) rfl (by exact Nat.le_of_eq rfl) (pc' := 57) (hb hy at_54) rfl (cells' := 3) (slots' := 21) rfl rfl (by decide) (by decide) (wy := [b3]) (fun _ _ _ q => ⟨q.1, q.2.1⟩) (allS ⟨gz3, (Or.inr gb3)⟩ all0) (fun _ K => IW.keep K (sfS (Safe.exa W3.al A3 (by decide) (by decide)) sf0) W3.inv) ?_
      intro v4 T4 h4 lo4 W4 K4 q4
      obtain ⟨r1_4, r2_4, r3_4, P4_0, P4_1, P4_2, P4_3, P4_4, P4_5, P4_6, P4_7, P4_8, rfl⟩ := q4.2.2
      show Gl _ _ _ _ _ _ _ _ [(.ref b3)]
      refine o_astore W4 (L' := #[.val (.int p0), .val (.int p1), .val (.int p2), .val (.int p3), .val (.int 0), .val (.int 0), .val (.int (p0 &&& (255 : Int32))), .val (.int (p1 &&& (255 : Int32))), .val (.int (p2 &&& (255 : Int32))), .val (.ref b3), .unset, .unset, .unset, .unset, .unset, .unset, .unset]) (pc' := 59) (hb hy at_57) rfl rfl rfl ?_
      refine o_new W4 (w0 hw) (w1 hw) (w2 hw) (fun _ E => IW.ext E W4.inv) (pc' := 62) (hb hy at_59) rfl (cells' := 4) (slots' := 22) rfl rfl (by decide) (by decide) ?_
      intro b5 T5 h5 W5 E5 ge5 gz5 gb5 A5 D5
      have Fb5_out : Fld Z h5 b5 "com/example/colophon/colophon/api/Html" "out" "Ljava/lang/StringBuilder;" .null := D5 (Or.inr (w30 hw)) (ty := (.object "java/lang/StringBuilder")) (by decide)
      refine o_dup W5 (pc' := 63) (hb hy at_62) rfl rfl ?_
      refine o_special W5 (y := (⟨"com/example/colophon/colophon/api/Html", "<init>", "()V"⟩ : MethodName)) rfl (w3 hw) (w4 hw) (w5 hw) (by decide) (a := b5) (argsL := []) (CtrN.back (Wd := 1) W5 (rm3 l Z a0 hw gCS b5 h5 W5.old SgCS NgCS A5 Fb5_out gz5) (w5 hw) (w2 hw) (by decide) (by decide)) (by rw [hml]; rfl) (lenOf pd1 rfl) (S := [(.ref b5)]) rfl (by exact Nat.le_of_eq rfl) (pc' := 66) (hb hy at_63) rfl (cells' := 6) (slots' := 42) rfl rfl (by decide) (by decide) (wy := [b5]) (fun _ _ _ q => ⟨q.1, q.2.1⟩) (allS ⟨gz5, (Or.inr gb5)⟩ all0) (fun _ K => IW.keep K (sfS (Safe.exa W5.al A5 (by decide) (by decide)) sf0) W5.inv) ?_
      intro v6 T6 h6 lo6 W6 K6 q6
      obtain ⟨r1_6, r2_6, r3_6, P6_0, P6_1, P6_2, P6_3, P6_4, P6_5, P6_6, P6_7, P6_8, rfl⟩ := q6.2.2
      show Gl _ _ _ _ _ _ _ _ [(.ref b5)]
      refine o_astore W6 (L' := #[.val (.int p0), .val (.int p1), .val (.int p2), .val (.int p3), .val (.int 0), .val (.int 0), .val (.int (p0 &&& (255 : Int32))), .val (.int (p1 &&& (255 : Int32))), .val (.int (p2 &&& (255 : Int32))), .val (.ref b3), .val (.ref b5), .unset, .unset, .unset, .unset, .unset, .unset]) (pc' := 68) (hb hy at_66) rfl rfl rfl ?_
      refine o_iload W6 (pc' := 70) (hb hy at_68) rfl rfl ?_
      refine o_ifY W6 (pc' := 84) (hb hy at_70) (XT.i0_eq_t (by decide)) (by decide) rfl ?_
      refine o_iload W6 (pc' := 86) (hb hy at_84) rfl rfl ?_
      refine o_ifY W6 (pc' := 100) (hb hy at_86) (XT.i0_eq_t (by decide)) (by decide) rfl ?_
      refine o_aload W6 (pc' := 102) (hb hy at_100) rfl rfl rfl ?_
      refine o_aload W6 (pc' := 104) (hb hy at_102) rfl rfl rfl ?_
      have c7 := (A3.keep K4)
      have c8 := ((P4_2.ext E5).keep K6 (ninS (own_ne c7.lt ge5) nin0))
      have c9 := ((P4_6.ext E5).keep K6 (ninS (own_ne P4_3.lt ge5) nin0))
      have c10 := ((P4_4.ext E5).keep K6 (ninS (own_ne P4_3.lt ge5) nin0))
      have c11 := ((P4_8.ext E5).keep K6 (ninS (own_ne P4_8.lt ge5) nin0))
      have c12 := ((P4_5.ext E5).keep K6 (ninS (own_ne P4_3.lt ge5) nin0))
      have c13 := ((P4_7.ext E5).keep K6 (ninS (own_ne P4_3.lt ge5) nin0))
      have c14 := ((P4_3.ext E5).keep K6)
      have c15 := (P4_3.ext E5)
      have c16 := ((c7.ext E5).keep K6)
      refine o_virtual W6 (y := (⟨"com/example/colophon/colophon/api/Html", "append", "(Lcom/example/colophon/colophon/api/Html;)Lcom/example/colophon/colophon/api/Html;"⟩ : MethodName)) (z := (⟨"com/example/colophon/colophon/api/Html", "append", "(Lcom/example/colophon/colophon/api/Html;)Lcom/example/colophon/colophon/api/Html;"⟩ : MethodName)) (w123 hw) (w124 hw) (o_nf W6 rfl (w126 hw)) (w126 hw) (w125 hw) (by decide) c16 (argsL := [(.ref b5)]) (CtrN.back (Wd := 0) W6 (rm13 l Z a0 hw gCS b3 b5 r1_4 r1_6 r2_4 r3_4 r2_6 r3_6 h6 W6.old c8 P6_2 c14 P6_3 P6_6 c9 c10 c11 c12 SgCS NgCS P6_5 P6_4 P6_8 c13 P6_7 (Nat.le_trans W3.zs P4_1) (Nat.le_trans W3.zs P4_0) (own_ne c15.lt P6_0)) (w127 hw) (w2 hw) (by decide) (by decide)) (by rw [hml]; rfl) (lenOf pd9 rfl) (S := []) rfl (by exact Nat.le_of_eq rfl) (pc' := 107) (hb hy at_104) rfl (cells' := 6) (slots' := 42) rfl rfl (by decide) (by decide) (wy := [r1_4, r2_4]) (fun _ _ _ q => ⟨q.1, q.2.1⟩) (allS ⟨(Nat.le_trans W3.zs P4_0), (Or.inr (Nat.le_trans W3.keep.1 P4_0))⟩ (allS ⟨(Nat.le_trans W3.zs P4_1), (Or.inr (Nat.le_trans W3.keep.1 P4_1))⟩ all0)) (fun _ K => IW.keep K (sfS (Safe.exa W6.al c14 (by decide) (by decide)) (sfS (own_safeB W6.2.2.2.1 (n := 16) (by decide) (own_EL16 hw) c11) sf0)) W6.inv) ?_
      intro v17 T17 h17 lo17 W17 K17 q17
      obtain ⟨P17_0, P17_1, P17_2, P17_3, P17_4, rfl⟩ := q17.2.2
      show Gl _ _ _ _ _ _ _ _ [(.ref b3)]
      refine o_astore W17 (L' := #[.val (.int p0), .val (.int p1), .val (.int p2), .val (.int p3), .val (.int 0), .val (.int 0), .val (.int (p0 &&& (255 : Int32))), .val (.int (p1 &&& (255 : Int32))), .val (.int (p2 &&& (255 : Int32))), .val (.ref b3), .val (.ref b5), .val (.ref b3), .unset, .unset, .unset, .unset, .unset]) (pc' := 109) (hb hy at_107) rfl rfl rfl ?_
      refine o_aload W17 (pc' := 111) (hb hy at_109) rfl rfl rfl ?_
      refine o_iload W17 (pc' := 113) (hb hy at_111) rfl rfl ?_
      refine o_static W17 (y := (⟨"java/lang/String", "valueOf", "(C)Ljava/lang/String;"⟩ : MethodName)) (w31 hw) (w32 hw) (w23 hw) (w33 hw) (by decide) (argsL := [(.int (p2 &&& (255 : Int32)))]) (CtrN.back (Wd := 1) W17 (rm17 l Z a0 hw gCS (p2 &&& (255 : Int32)) h17 W17.old SgCS NgCS (own_b255 _)) (w33 hw) (w23 hw) (by decide) (by decide)) (by rw [hml]; rfl) (lenOf pd13 rfl) (S := [(.ref b5)]) rfl (by exact Nat.le_of_eq rfl) (pc' := 116) (hb hy at_113) rfl (cells' := 8) (slots' := 47) rfl rfl (by decide) (by decide) (wy := []) (fun _ _ _ q => ⟨q.1, q.2.1⟩) all0 (fun _ K => IW.keep K sf0 W17.inv) ?_
      intro v18 T18 h18 lo18 W18 K18 q18
      obtain ⟨r1_18, r2_18, r3_18, P18_0, P18_1, P18_2, P18_3, P18_4, P18_5, rfl⟩ := q18.2.2
      show Gl _ _ _ _ _ _ _ _ [(.ref r1_18), (.ref b5)]
      have B19 : Arv Z h18 r2_18 r3_18 .byte (1 : Int32) [(.int (StrChars.lo8 (p2 &&& (255 : Int32))))] (.int 0) := P18_5
      have c20 := ((P6_2.keep K17 (ninS (own_ne' P4_3.lt ge5) (ninS (own_ne' P4_8.lt ge5) nin0))).keep K18 nin0)
      have c21 := (P4_8.ext E5)
      have c22 := ((P6_6.keep K17 (ninS (own_ne' c15.lt P6_0) (ninS (own_ne' c21.lt P6_0) nin0))).keep K18 nin0)
      have c23 := ((P6_4.keep K17 (ninS (own_ne' c15.lt P6_0) (ninS (own_ne' c21.lt P6_0) nin0))).keep K18 nin0)
      have c24 := ((P6_8.keep K17 (ninS (own_ne' c15.lt P6_1) (ninS (own_ne' c21.lt P6_1) nin0))).keep K18 nin0)
      have c25 := ((P6_5.keep K17 (ninS (own_ne' c15.lt P6_0) (ninS (own_ne' c21.lt P6_0) nin0))).keep K18 nin0)
      have c26 := ((P6_7.keep K17 (ninS (own_ne' c15.lt P6_0) (ninS (own_ne' c21.lt P6_0) nin0))).keep K18 nin0)
      have c27 := ((P6_3.keep K17).keep K18)
      have c28 := (P6_8.keep K17 (ninS (own_ne' c15.lt P6_1) (ninS (own_ne' c21.lt P6_1) nin0)))
      have c29 := (((A5.keep K6).keep K17).keep K18)
      refine o_virtualW W18 (y := (⟨"com/example/colophon/colophon/api/Html", "close", "(Ljava/lang/String;)Lcom/example/colophon/colophon/api/Html;"⟩ : MethodName)) (z := (⟨"com/example/colophon/colophon/api/Html", "close", "(Ljava/lang/String;)Lcom/example/colophon/colophon/api/Html;"⟩ : MethodName)) (w53 hw) (w54 hw) (o_nf W18 rfl (w56 hw)) (w56 hw) (w55 hw) (by decide) c29 (argsL := [(.ref r1_18)]) (CtrW.back (Wd := 0) W18 (rm37 l Z a0 hw gCS b5 r1_18 r1_6 r2_6 r3_6 r2_18 r3_18 (p2 &&& (255 : Int32)) h18 W18.old c20 c27 SgCS NgCS c22 c23 c24 c25 c26 (Nat.le_trans W5.zs P6_1) (Nat.le_trans W5.zs P6_0) P18_2 P18_3 B19 (own_ne c28.lt P18_1) P18_4) (w57 hw) (w2 hw) (by decide) (by decide) (own_EL hw)) (by rw [hml]; rfl) (lenOf pd21 rfl) (S := []) rfl (by exact Nat.le_of_eq rfl) (pc' := 119) (hb hy at_116) rfl (cells' := 10) (slots' := 59) rfl rfl (by decide) (by decide) (wy := [r2_6, r1_6]) (fun _ _ _ q => ⟨q.1, q.2.1⟩) (allS ⟨(Nat.le_trans W5.zs P6_1), (Or.inr (Nat.le_trans W5.keep.1 P6_1))⟩ (allS ⟨(Nat.le_trans W5.zs P6_0), (Or.inr (Nat.le_trans W5.keep.1 P6_0))⟩ all0))  ?_
      intro v30 T30 h30 V30 lo30 W30 K30 C30 q30
      obtain ⟨P30_0, P30_1, P30_2, P30_3, P30_4, rfl⟩ := q30.2.2
      show Gl _ _ _ _ _ _ _ _ [(.ref b5)]
      refine o_pop W30 (pc' := 120) (hb hy at_119) rfl rfl ?_
      refine o_iload W30 (pc' := 122) (hb hy at_120) rfl rfl ?_
      refine o_ifY W30 (pc' := 129) (hb hy at_122) (XT.i0_eq_t (by decide)) (by decide) rfl ?_
      refine o_iconst W30 (v := 0) (pc' := 130) (hb hy at_129) rfl rfl ?_
      refine o_iload W30 (pc' := 132) (hb hy at_130) rfl rfl ?_
      refine o_ifY W30 (pc' := 139) (hb hy at_132) (XT.i0_eq_t (by decide)) (by decide) rfl ?_
      refine o_iconst W30 (v := 0) (pc' := 140) (hb hy at_139) rfl rfl ?_
      refine o_iadd W30 (v := 0) (pc' := 141) (hb hy at_140) (by decide) rfl ?_
      refine o_istore W30 (L' := #[.val (.int p0), .val (.int p1), .val (.int p2), .val (.int p3), .val (.int 0), .val (.int 0), .val (.int (p0 &&& (255 : Int32))), .val (.int (p1 &&& (255 : Int32))), .val (.int (p2 &&& (255 : Int32))), .val (.ref b3), .val (.ref b5), .val (.ref b3), .val (.int 0), .unset, .unset, .unset, .unset]) (pc' := 143) (hb hy at_141) rfl rfl ?_
      refine o_iload W30 (pc' := 145) (hb hy at_143) rfl rfl ?_
      refine o_newP W30 (aty := .char) (w172 hw) (fun _ E => IW.ext E W30.inv) (by decide) (cap := 0) (by decide) (by decide) (pc' := 147) (hb hy at_145) rfl (cells' := 11) (slots' := 59) rfl rfl (by decide) (by decide) (vs := []) (dv := (.int 0)) rfl rfl ?_
      intro b31 T31 h31 k31 W31 E31 ge31 gz31 gb31 V31
      refine o_astore W31 (L' := #[.val (.int p0), .val (.int p1), .val (.int p2), .val (.int p3), .val (.int 0), .val (.int 0), .val (.int (p0 &&& (255 : Int32))), .val (.int (p1 &&& (255 : Int32))), .val (.int (p2 &&& (255 : Int32))), .val (.ref b3), .val (.ref b5), .val (.ref b3), .val (.int 0), .val (.ref b31), .unset, .unset, .unset]) (pc' := 149) (hb hy at_147) rfl rfl rfl ?_
      refine o_iconst W31 (v := 0) (pc' := 150) (hb hy at_149) rfl rfl ?_
      refine o_istore W31 (L' := #[.val (.int p0), .val (.int p1), .val (.int p2), .val (.int p3), .val (.int 0), .val (.int 0), .val (.int (p0 &&& (255 : Int32))), .val (.int (p1 &&& (255 : Int32))), .val (.int (p2 &&& (255 : Int32))), .val (.ref b3), .val (.ref b5), .val (.ref b3), .val (.int 0), .val (.ref b31), .val (.int 0), .unset, .unset]) (pc' := 152) (hb hy at_150) rfl rfl ?_
      refine o_iload W31 (pc' := 154) (hb hy at_152) rfl rfl ?_
      refine o_ifY W31 (pc' := 168) (hb hy at_154) (XT.i0_eq_t (by decide)) (by decide) rfl ?_
      refine o_iload W31 (pc' := 170) (hb hy at_168) rfl rfl ?_
      refine o_ifY W31 (pc' := 182) (hb hy at_170) (XT.i0_eq_t (by decide)) (by decide) rfl ?_
      refine o_iload W31 (pc' := 184) (hb hy at_182) rfl rfl ?_
      refine o_ifY W31 (pc' := 192) (hb hy at_184) (XT.i0_eq_t (by decide)) (by decide) rfl ?_
      refine o_iconst W31 (v := 4) (pc' := 193) (hb hy at_192) rfl rfl ?_
      refine o_newP W31 (aty := .char) (w172 hw) (fun _ E => IW.ext E W31.inv) (by decide) (cap := 4) (by decide) (by decide) (pc' := 195) (hb hy at_193) rfl (cells' := 12) (slots' := 63) rfl rfl (by decide) (by decide) (vs := [(.int 0), (.int 0), (.int 0), (.int 0)]) (dv := (.int 0)) rfl rfl ?_
      intro b32 T32 h32 k32 W32 E32 ge32 gz32 gb32 V32
      refine o_astore W32 (L' := #[.val (.int p0), .val (.int p1), .val (.int p2), .val (.int p3), .val (.int 0), .val (.int 0), .val (.int (p0 &&& (255 : Int32))), .val (.int (p1 &&& (255 : Int32))), .val (.int (p2 &&& (255 : Int32))), .val (.ref b3), .val (.ref b5), .val (.ref b3), .val (.int 0), .val (.ref b31), .val (.int 0), .val (.ref b32), .unset]) (pc' := 197) (hb hy at_195) rfl rfl rfl ?_
      refine o_iconst W32 (v := 0) (pc' := 198) (hb hy at_197) rfl rfl ?_
      refine o_istore W32 (L' := #[.val (.int p0), .val (.int p1), .val (.int p2), .val (.int p3), .val (.int 0), .val (.int 0), .val (.int (p0 &&& (255 : Int32))), .val (.int (p1 &&& (255 : Int32))), .val (.int (p2 &&& (255 : Int32))), .val (.ref b3), .val (.ref b5), .val (.ref b3), .val (.int 0), .val (.ref b31), .val (.int 0), .val (.ref b32), .val (.int 0)]) (pc' := 200) (hb hy at_198) rfl rfl ?_
      refine o_iload W32 (pc' := 202) (hb hy at_200) rfl rfl ?_
      refine o_ifY W32 (pc' := 216) (hb hy at_202) (XT.i0_eq_t (by decide)) (by decide) rfl ?_
      refine o_aload W32 (pc' := 218) (hb hy at_216) rfl rfl rfl ?_
      refine o_iload W32 (pc' := 220) (hb hy at_218) rfl rfl ?_
      refine o_iload W32 (pc' := 222) (hb hy at_220) rfl rfl ?_
      refine o_static W32 (y := (⟨"com/example/colophon/colophon/api/HtmlAppendPinLaw", "put", "([CIC)V"⟩ : MethodName)) (w173 hw) (w174 hw) (w175 hw) (w176 hw) (by decide) (argsL := [(.ref b32), (.int 0), (.int (p2 &&& (255 : Int32)))]) (CtrN.back (Wd := 0) W32 (rm38 l Z a0 hw b32 (p2 &&& (255 : Int32)) k32 h32 W32.old V32 gz32 (own_b255 _)) (w176 hw) (w175 hw) (by decide) (by decide)) (by rw [hml]; rfl) (lenOf pd22 rfl) (S := []) rfl (by exact Nat.le_of_eq rfl) (pc' := 225) (hb hy at_222) rfl (cells' := 12) (slots' := 63) rfl rfl (by decide) (by decide) (wy := [b32]) (fun _ _ _ q => ⟨q.1, q.2.1⟩) (allS ⟨gz32, (Or.inr gb32)⟩ all0) (fun _ K => IW.keep K (sfS (Safe.arv W32.al V32 (by decide)) sf0) W32.inv) ?_
      intro v33 T33 h33 lo33 W33 K33 q33
      obtain ⟨P33_0, rfl⟩ := q33.2.2
      show Gl _ _ _ _ _ _ _ _ []
      refine o_aload W33 (pc' := 227) (hb hy at_225) rfl rfl rfl ?_
      refine o_aload W33 (pc' := 229) (hb hy at_227) rfl rfl rfl ?_
      refine o_acmpN W33 (pc' := 232) (hb hy at_229) rfl rfl (XT.aa_ne_f rfl) rfl ?_
      refine o_aload W33 (pc' := 234) (hb hy at_232) rfl rfl rfl ?_
      have c34 := (c7.ext E5)
      have c35 := ((((c16.keep K17).keep K18).keep K30).ext E31)
      have c36 := ((((((c8.keep K17 (ninS (own_ne A3.lt P4_0) (ninS (own_ne A3.lt P4_1) nin0))).keep K18 nin0).keep K30 (ninS (own_ne c34.lt P6_1) (ninS (own_ne c34.lt P6_0) nin0))).ext E31).ext E32).keep K33 (ninS (own_ne c35.lt ge32) nin0))
      have c37 := ((((c14.keep K17).keep K18).keep K30).ext E31)
      have c38 := (((((P17_1.keep K18 nin0).keep K30 (ninS (own_ne c15.lt P6_1) (ninS (own_ne c15.lt P6_0) nin0))).ext E31).ext E32).keep K33 (ninS (own_ne c37.lt ge32) nin0))
      have c39 := (((((P17_0.keep K18 nin0).keep K30 (ninS (own_ne c15.lt P6_1) (ninS (own_ne c15.lt P6_0) nin0))).ext E31).ext E32).keep K33 (ninS (own_ne c37.lt ge32) nin0))
      have c40 := (((((P17_3.keep K18 nin0).keep K30 (ninS (own_ne c15.lt P6_1) (ninS (own_ne c15.lt P6_0) nin0))).ext E31).ext E32).keep K33 (ninS (own_ne c37.lt ge32) nin0))
      have c41 := (((P17_2.keep K18 nin0).keep K30 (ninS (own_ne c21.lt P6_1) (ninS (own_ne c21.lt P6_0) nin0))).ext E31)
      have c42 := (((((P17_2.keep K18 nin0).keep K30 (ninS (own_ne c21.lt P6_1) (ninS (own_ne c21.lt P6_0) nin0))).ext E31).ext E32).keep K33 (ninS (own_ne c41.lt ge32) nin0))
      have c43 := ((c37.ext E32).keep K33)
      have c44 := ((c35.ext E32).keep K33)
      refine o_virtual W33 (y := (⟨"com/example/colophon/colophon/api/Html", "toString", "()Ljava/lang/String;"⟩ : MethodName)) (z := (⟨"com/example/colophon/colophon/api/Html", "toString", "()Ljava/lang/String;"⟩ : MethodName)) (w177 hw) (w178 hw) (o_nf W33 rfl (w180 hw)) (w180 hw) (w179 hw) (by decide) c44 (argsL := []) (CtrN.back (Wd := 0) W33 (rm47 l Z a0 hw gCS b3 r1_4 r2_4 r3_4 h33 W33.old c36 c43 c38 c39 SgCS NgCS c40 c42) (w181 hw) (w2 hw) (by decide) (by decide)) (by rw [hml]; rfl) (lenOf pd29 rfl) (S := []) rfl (by exact Nat.le_of_eq rfl) (pc' := 237) (hb hy at_234) rfl (cells' := 14) (slots' := 67) rfl rfl (by decide) (by decide) (wy := []) (fun _ _ _ q => ⟨q.1, q.2.1⟩) all0 (fun _ K => IW.keep K sf0 W33.inv) ?_
      intro v45 T45 h45 lo45 W45 K45 q45
      obtain ⟨r1_45, r2_45, r3_45, P45_0, P45_1, P45_2, P45_3, P45_4, P45_5, rfl⟩ := q45.2.2
      show Gl _ _ _ _ _ _ _ _ [(.ref r1_45)]
      refine o_new W45 (w216 hw) (w40 hw) (w23 hw) (fun _ E => IW.ext E W45.inv) (pc' := 240) (hb hy at_237) rfl (cells' := 15) (slots' := 71) rfl rfl (by decide) (by decide) ?_
      intro b46 T46 h46 W46 E46 ge46 gz46 gb46 A46 D46
      have Fb46_value : Fld Z h46 b46 "java/lang/String" "value" "[B" .null := D46 (Or.inr (w50 hw)) (ty := (.array .byte)) (by decide)
      have Fb46_coder : Fld Z h46 b46 "java/lang/String" "coder" "B" (.int 0) := D46 (Or.inr (w52 hw)) (ty := .byte) (by decide)
      refine o_dup W46 (pc' := 241) (hb hy at_240) rfl rfl ?_
      refine o_aload W46 (pc' := 243) (hb hy at_241) rfl rfl rfl ?_
      have c47 := ((((V31.ext E32).keep K33 (ninS (own_ne V31.lt ge32) nin0)).keep K45 nin0).ext E46)
      refine o_specialW W46 (y := (⟨"java/lang/String", "<init>", "([C)V"⟩ : MethodName)) rfl (w217 hw) (w218 hw) (w219 hw) (by decide) (a := b46) (argsL := [(.ref b31)]) (CtrW.back (Wd := 2) W46 (rm49 l Z a0 hw b46 b31 k31 h46 W46.old c47 A46 Fb46_value Fb46_coder gz46) (w219 hw) (w23 hw) (by decide) (by decide) (own_EL hw)) (by rw [hml]; rfl) (lenOf pd31 rfl) (S := [(.ref b46), (.ref r1_45)]) rfl (by exact Nat.le_of_eq rfl) (pc' := 246) (hb hy at_243) rfl (cells' := 19) (slots' := 79) rfl rfl (by decide) (by decide) (wy := [b46]) (fun _ _ _ q => ⟨q.1, q.2.1⟩) (allS ⟨gz46, (Or.inr gb46)⟩ all0)  ?_
      intro v48 T48 h48 V48 lo48 W48 K48 C48 q48
      obtain ⟨r1_48, r2_48, P48_0, P48_1, P48_2, rfl⟩ := q48.2.2
      show Gl _ _ _ _ _ _ _ _ [(.ref b46), (.ref r1_45)]
      have c49 := ((P45_4.ext E46).keep K48 (ninS (own_ne P45_2.lt ge46) nin0))
      have c50 := ((P45_3.ext E46).keep K48 (ninS (own_ne P45_2.lt ge46) nin0))
      have c51 := ((P45_5.ext E46).keep K48 (ninS (own_ne P45_5.lt ge46) nin0))
      have c52 := ((P45_2.ext E46).keep K48)
      have c53 := (A46.keep K48)
      refine o_virtual W48 (y := (⟨"java/lang/String", "equals", "(Ljava/lang/Object;)Z"⟩ : MethodName)) (z := (⟨"java/lang/String", "equals", "(Ljava/lang/Object;)Z"⟩ : MethodName)) (w233 hw) (w234 hw) (o_nf W48 rfl (w236 hw)) (w236 hw) (w235 hw) (by decide) c52 (argsL := [(.ref b46)]) (CtrN.back (Wd := 0) W48 (rm51 l Z a0 hw gCS r1_45 b46 r2_45 r1_48 r3_45 r2_48 h48 W48.old c52 c53 (own_ne P45_2.lt ge46) SgCS NgCS c49 P48_1 c50 P48_0 c51 P48_2) (w237 hw) (w23 hw) (by decide) (by decide)) (by rw [hml]; rfl) (lenOf pd33 rfl) (S := []) rfl (by exact Nat.le_of_eq rfl) (pc' := 249) (hb hy at_246) rfl (cells' := 19) (slots' := 79) rfl rfl (by decide) (by decide) (wy := []) (fun _ _ _ q => ⟨q.1, q.2.1⟩) all0 (fun _ K => IW.keep K sf0 W48.inv) ?_
      intro v54 T54 h54 lo54 W54 K54 q54
      obtain rfl := q54.2.2
      show Gl _ _ _ _ _ _ _ _ [(.int 1)]
      refine o_ifN W54 (pc' := 252) (hb hy at_249) (XT.i0_eq_f (by decide)) rfl ?_
      refine o_aload W54 (pc' := 254) (hb hy at_252) rfl rfl rfl ?_
      have c55 := ((c29.keep K30).ext E31)
      have c56 := (((c55.ext E32).keep K33).keep K45)
      have c57 := ((((((((c20.keep K30 (ninS (own_ne A5.lt P6_1) (ninS (own_ne A5.lt P6_0) nin0))).ext E31).ext E32).keep K33 (ninS (own_ne c55.lt ge32) nin0)).keep K45 nin0).ext E46).keep K48 (ninS (own_ne c56.lt ge46) nin0)).keep K54 nin0)
      have c58 := ((c27.keep K30).ext E31)
      have c59 := (((c58.ext E32).keep K33).keep K45)
      have c60 := (((((((P30_1.ext E31).ext E32).keep K33 (ninS (own_ne c58.lt ge32) nin0)).keep K45 nin0).ext E46).keep K48 (ninS (own_ne c59.lt ge46) nin0)).keep K54 nin0)
      have c61 := (((((((P30_0.ext E31).ext E32).keep K33 (ninS (own_ne c58.lt ge32) nin0)).keep K45 nin0).ext E46).keep K48 (ninS (own_ne c59.lt ge46) nin0)).keep K54 nin0)
      have c62 := (((((((P30_3.ext E31).ext E32).keep K33 (ninS (own_ne c58.lt ge32) nin0)).keep K45 nin0).ext E46).keep K48 (ninS (own_ne c59.lt ge46) nin0)).keep K54 nin0)
      have c63 := (P30_2.ext E31)
      have c64 := (((c63.ext E32).keep K33 (ninS (own_ne c63.lt ge32) nin0)).keep K45 nin0)
      have c65 := (((((((P30_2.ext E31).ext E32).keep K33 (ninS (own_ne c63.lt ge32) nin0)).keep K45 nin0).ext E46).keep K48 (ninS (own_ne c64.lt ge46) nin0)).keep K54 nin0)
      have c66 := (((c59.ext E46).keep K48).keep K54)
      have c67 := (((c56.ext E46).keep K48).keep K54)
      refine o_virtual W54 (y := (⟨"com/example/colophon/colophon/api/Html", "toString", "()Ljava/lang/String;"⟩ : MethodName)) (z := (⟨"com/example/colophon/colophon/api/Html", "toString", "()Ljava/lang/String;"⟩ : MethodName)) (w177 hw) (w178 hw) (o_nf W54 rfl (w180 hw)) (w180 hw) (w179 hw) (by decide) c67 (argsL := []) (CtrN.back (Wd := 0) W54 (rm61 l Z a0 hw gCS b5 r1_6 r2_6 r3_6 (StrChars.lo8 (60 : Int32)) (StrChars.lo8 (47 : Int32)) (StrChars.lo8 (p2 &&& (255 : Int32))) h54 W54.old c57 c66 c60 c61 SgCS NgCS c62 c65) (w181 hw) (w2 hw) (by decide) (by decide)) (by rw [hml]; rfl) (lenOf pd29 rfl) (S := []) rfl (by exact Nat.le_of_eq rfl) (pc' := 257) (hb hy at_254) rfl (cells' := 21) (slots' := 87) rfl rfl (by decide) (by decide) (wy := []) (fun _ _ _ q => ⟨q.1, q.2.1⟩) all0 (fun _ K => IW.keep K sf0 W54.inv) ?_
      intro v68 T68 h68 lo68 W68 K68 q68
      obtain ⟨r1_68, r2_68, r3_68, P68_0, P68_1, P68_2, P68_3, P68_4, P68_5, rfl⟩ := q68.2.2
      show Gl _ _ _ _ _ _ _ _ [(.ref r1_68)]
      refine o_new W68 (w216 hw) (w40 hw) (w23 hw) (fun _ E => IW.ext E W68.inv) (pc' := 260) (hb hy at_257) rfl (cells' := 22) (slots' := 91) rfl rfl (by decide) (by decide) ?_
      intro b69 T69 h69 W69 E69 ge69 gz69 gb69 A69 D69
      have Fb69_value : Fld Z h69 b69 "java/lang/String" "value" "[B" .null := D69 (Or.inr (w50 hw)) (ty := (.array .byte)) (by decide)
      have Fb69_coder : Fld Z h69 b69 "java/lang/String" "coder" "B" (.int 0) := D69 (Or.inr (w52 hw)) (ty := .byte) (by decide)
      refine o_dup W69 (pc' := 261) (hb hy at_260) rfl rfl ?_
      refine o_aload W69 (pc' := 263) (hb hy at_261) rfl rfl rfl ?_
      have c70 := (P33_0.keep K45 nin0)
      have c71 := ((((((P33_0.keep K45 nin0).ext E46).keep K48 (ninS (own_ne c70.lt ge46) nin0)).keep K54 nin0).keep K68 nin0).ext E69)
      have ok72 : own_ok [(60 : Int32), (47 : Int32), (p2 &&& (255 : Int32)), (62 : Int32)] := ⟨by simp only [List.mem_cons, List.not_mem_nil, or_false, forall_eq_or_imp, forall_eq, false_imp_iff, implies_true]; exact ⟨(by unfold own_b; decide), (by unfold own_b; decide), (own_b255 _), (by unfold own_b; decide)⟩, Nat.le_of_ble_eq_true rfl⟩
      have sf73 := own_safeS (EL := consts_1) W69.al A69 Fb69_value
      refine o_special W69 (y := (⟨"java/lang/String", "<init>", "([C)V"⟩ : MethodName)) rfl (w217 hw) (w218 hw) (w219 hw) (by decide) (a := b69) (argsL := [(.ref b32)]) (StrChars.Road.backV (W := 2) W69.2.2.2.1 (own_hV hw) (kI := 4) (w40 hw) (cs := [(60 : Int32), (47 : Int32), (p2 &&& (255 : Int32)), (62 : Int32)]) (bs := [((60 : Int32)).toInt8.toInt32, ((47 : Int32)).toInt8.toInt32, ((p2 &&& (255 : Int32))).toInt8.toInt32, ((62 : Int32)).toInt8.toInt32]) (n := 4) (n0 := Z.heap.size) gz69 W69.zs A69 Fb69_value Fb69_coder c71 (SgCS.ext W69.ox) NgCS rfl rfl (by decide) (by decide) ok72.1 rfl (by decide) (by decide)) (by rw [hml]; rfl) (lenOf pd31 rfl) (S := [(.ref b69), (.ref r1_68)]) rfl (by exact Nat.le_of_eq rfl) (pc' := 266) (hb hy at_263) rfl (cells' := 23) (slots' := 95) rfl rfl (by decide) (by decide) (wy := [b69]) (fun _ _ _ q => ⟨q.2.1, q.2.2.1⟩) (allS ⟨gz69, (Or.inr gb69)⟩ all0) (fun _ K => IW.keep K (sfS sf73 sf0) W69.inv) ?_
      intro v74 T74 h74 lo74 W74 K74 q74
      obtain ⟨rfl, -, -, X74, Fc74, t74, kb74, gz74, ge74, -, Fv74, A74⟩ := q74
      have B74 : Arv Z h74 t74 kb74 .byte (4 : Int32) [(.int (StrChars.lo8 (60 : Int32))), (.int (StrChars.lo8 (47 : Int32))), (.int (StrChars.lo8 (p2 &&& (255 : Int32)))), (.int (StrChars.lo8 (62 : Int32)))] (.int 0) := A74
      show Gl _ _ _ _ _ _ _ _ [(.ref b69), (.ref r1_68)]
      have c75 := ((P68_4.ext E69).keep K74 (ninS (own_ne P68_2.lt ge69) nin0))
      have c76 := ((P68_3.ext E69).keep K74 (ninS (own_ne P68_2.lt ge69) nin0))
      have c77 := ((P68_5.ext E69).keep K74 (ninS (own_ne P68_5.lt ge69) nin0))
      have c78 := ((P68_2.ext E69).keep K74)
      refine o_virtual W74 (y := (⟨"java/lang/String", "equals", "(Ljava/lang/Object;)Z"⟩ : MethodName)) (z := (⟨"java/lang/String", "equals", "(Ljava/lang/Object;)Z"⟩ : MethodName)) (w233 hw) (w234 hw) (o_nf W74 rfl (w236 hw)) (w236 hw) (w235 hw) (by decide) c78 (argsL := [(.ref b69)]) (CtrN.back (Wd := 0) W74 (rm63 l Z a0 hw gCS r1_68 b69 r2_68 t74 r3_68 (StrChars.lo8 (60 : Int32)) (StrChars.lo8 (47 : Int32)) (StrChars.lo8 (p2 &&& (255 : Int32))) kb74 (p2 &&& (255 : Int32)) h74 W74.old c78 X74 (own_ne P68_2.lt ge69) SgCS NgCS c75 Fc74 c76 Fv74 c77 B74 rfl rfl rfl) (w237 hw) (w23 hw) (by decide) (by decide)) (by rw [hml]; rfl) (lenOf pd33 rfl) (S := []) rfl (by exact Nat.le_of_eq rfl) (pc' := 269) (hb hy at_266) rfl (cells' := 23) (slots' := 95) rfl rfl (by decide) (by decide) (wy := []) (fun _ _ _ q => ⟨q.1, q.2.1⟩) all0 (fun _ K => IW.keep K sf0 W74.inv) ?_
      intro v79 T79 h79 lo79 W79 K79 q79
      obtain rfl := q79.2.2
      show Gl _ _ _ _ _ _ _ _ [(.int 1)]
      refine o_ifN W79 (pc' := 272) (hb hy at_269) (XT.i0_eq_f (by decide)) rfl ?_
      refine o_iconst W79 (v := 1) (pc' := 273) (hb hy at_272) rfl rfl ?_
      refine o_goto W79 (pc' := 277) (hb hy at_273) (by decide) rfl ?_
      exact o_retNW W79 (own_EL hw) hlk (t := .boolean) hret (by simp) (z' := (1 : Int32)) (by decide) (hb hy at_277) (by decide) (by decide) rfl
    · refine o_ifN W0 (pc' := 19) (hb hy at_16) (XT.i0_eq_f hq2) rfl ?_
      refine o_iconst W0 (v := 1) (pc' := 20) (hb hy at_19) rfl rfl ?_
      refine o_goto W0 (pc' := 24) (hb hy at_20) (by decide) rfl ?_
      refine o_istore W0 (L' := #[.val (.int p0), .val (.int p1), .val (.int p2), .val (.int p3), .val (.int 0), .val (.int 1), .unset, .unset, .unset, .unset, .unset, .unset, .unset, .unset, .unset, .unset, .unset]) (pc' := 26) (hb hy at_24) rfl rfl ?_
      refine o_iloadN W0 (pc' := 27) (hb hy at_26) rfl rfl ?_
      refine o_sipush W0 (v := 255) (pc' := 30) (hb hy at_27) (by decide) rfl ?_
      refine o_iand W0 (v := (p0 &&& (255 : Int32))) (pc' := 31) (hb hy at_30) rfl rfl ?_
      refine o_i2c W0 (v := (p0 &&& (255 : Int32))) (pc' := 32) (hb hy at_31) (own_i2c (own_b255 _)) rfl ?_
      refine o_istore W0 (L' := #[.val (.int p0), .val (.int p1), .val (.int p2), .val (.int p3), .val (.int 0), .val (.int 1), .val (.int (p0 &&& (255 : Int32))), .unset, .unset, .unset, .unset, .unset, .unset, .unset, .unset, .unset, .unset]) (pc' := 34) (hb hy at_32) rfl rfl ?_
      refine o_iloadN W0 (pc' := 35) (hb hy at_34) rfl rfl ?_
      refine o_sipush W0 (v := 255) (pc' := 38) (hb hy at_35) (by decide) rfl ?_
      refine o_iand W0 (v := (p1 &&& (255 : Int32))) (pc' := 39) (hb hy at_38) rfl rfl ?_
      refine o_i2c W0 (v := (p1 &&& (255 : Int32))) (pc' := 40) (hb hy at_39) (own_i2c (own_b255 _)) rfl ?_
      refine o_istore W0 (L' := #[.val (.int p0), .val (.int p1), .val (.int p2), .val (.int p3), .val (.int 0), .val (.int 1), .val (.int (p0 &&& (255 : Int32))), .val (.int (p1 &&& (255 : Int32))), .unset, .unset, .unset, .unset, .unset, .unset, .unset, .unset, .unset]) (pc' := 42) (hb hy at_40) rfl rfl ?_
      refine o_iloadN W0 (pc' := 43) (hb hy at_42) rfl rfl ?_
      refine o_sipush W0 (v := 255) (pc' := 46) (hb hy at_43) (by decide) rfl ?_
      refine o_iand W0 (v := (p2 &&& (255 : Int32))) (pc' := 47) (hb hy at_46) rfl rfl ?_
      refine o_i2c W0 (v := (p2 &&& (255 : Int32))) (pc' := 48) (hb hy at_47) (own_i2c (own_b255 _)) rfl ?_
      refine o_istore W0 (L' := #[.val (.int p0), .val (.int p1), .val (.int p2), .val (.int p3), .val (.int 0), .val (.int 1), .val (.int (p0 &&& (255 : Int32))), .val (.int (p1 &&& (255 : Int32))), .val (.int (p2 &&& (255 : Int32))), .unset, .unset, .unset, .unset, .unset, .unset, .unset, .unset]) (pc' := 50) (hb hy at_48) rfl rfl ?_
      refine o_new W0 (w0 hw) (w1 hw) (w2 hw) (fun _ E => IW.ext E W0.inv) (pc' := 53) (hb hy at_50) rfl (cells' := 1) (slots' := 1) rfl rfl (by decide) (by decide) ?_
      intro b80 T80 h80 W80 E80 ge80 gz80 gb80 A80 D80
      have Fb80_out : Fld Z h80 b80 "com/example/colophon/colophon/api/Html" "out" "Ljava/lang/StringBuilder;" .null := D80 (Or.inr (w30 hw)) (ty := (.object "java/lang/StringBuilder")) (by decide)
      refine o_dup W80 (pc' := 54) (hb hy at_53) rfl rfl ?_
      refine o_special W80 (y := (⟨"com/example/colophon/colophon/api/Html", "<init>", "()V"⟩ : MethodName)) rfl (w3 hw) (w4 hw) (w5 hw) (by decide) (a := b80) (argsL := []) (CtrN.back (Wd := 1) W80 (rm3 l Z a0 hw gCS b80 h80 W80.old SgCS NgCS A80 Fb80_out gz80) (w5 hw) (w2 hw) (by decide) (by decide)) (by rw [hml]; rfl) (lenOf pd1 rfl) (S := [(.ref b80)]) rfl (by exact Nat.le_of_eq rfl) (pc' := 57) (hb hy at_54) rfl (cells' := 3) (slots' := 21) rfl rfl (by decide) (by decide) (wy := [b80]) (fun _ _ _ q => ⟨q.1, q.2.1⟩) (allS ⟨gz80, (Or.inr gb80)⟩ all0) (fun _ K => IW.keep K (sfS (Safe.exa W80.al A80 (by decide) (by decide)) sf0) W80.inv) ?_
      intro v81 T81 h81 lo81 W81 K81 q81
      obtain ⟨r1_81, r2_81, r3_81, P81_0, P81_1, P81_2, P81_3, P81_4, P81_5, P81_6, P81_7, P81_8, rfl⟩ := q81.2.2
      show Gl _ _ _ _ _ _ _ _ [(.ref b80)]
      refine o_astore W81 (L' := #[.val (.int p0), .val (.int p1), .val (.int p2), .val (.int p3), .val (.int 0), .val (.int 1), .val (.int (p0 &&& (255 : Int32))), .val (.int (p1 &&& (255 : Int32))), .val (.int (p2 &&& (255 : Int32))), .val (.ref b80), .unset, .unset, .unset, .unset, .unset, .unset, .unset]) (pc' := 59) (hb hy at_57) rfl rfl rfl ?_
      refine o_new W81 (w0 hw) (w1 hw) (w2 hw) (fun _ E => IW.ext E W81.inv) (pc' := 62) (hb hy at_59) rfl (cells' := 4) (slots' := 22) rfl rfl (by decide) (by decide) ?_
      intro b82 T82 h82 W82 E82 ge82 gz82 gb82 A82 D82
      have Fb82_out : Fld Z h82 b82 "com/example/colophon/colophon/api/Html" "out" "Ljava/lang/StringBuilder;" .null := D82 (Or.inr (w30 hw)) (ty := (.object "java/lang/StringBuilder")) (by decide)
      refine o_dup W82 (pc' := 63) (hb hy at_62) rfl rfl ?_
      refine o_special W82 (y := (⟨"com/example/colophon/colophon/api/Html", "<init>", "()V"⟩ : MethodName)) rfl (w3 hw) (w4 hw) (w5 hw) (by decide) (a := b82) (argsL := []) (CtrN.back (Wd := 1) W82 (rm3 l Z a0 hw gCS b82 h82 W82.old SgCS NgCS A82 Fb82_out gz82) (w5 hw) (w2 hw) (by decide) (by decide)) (by rw [hml]; rfl) (lenOf pd1 rfl) (S := [(.ref b82)]) rfl (by exact Nat.le_of_eq rfl) (pc' := 66) (hb hy at_63) rfl (cells' := 6) (slots' := 42) rfl rfl (by decide) (by decide) (wy := [b82]) (fun _ _ _ q => ⟨q.1, q.2.1⟩) (allS ⟨gz82, (Or.inr gb82)⟩ all0) (fun _ K => IW.keep K (sfS (Safe.exa W82.al A82 (by decide) (by decide)) sf0) W82.inv) ?_
      intro v83 T83 h83 lo83 W83 K83 q83
      obtain ⟨r1_83, r2_83, r3_83, P83_0, P83_1, P83_2, P83_3, P83_4, P83_5, P83_6, P83_7, P83_8, rfl⟩ := q83.2.2
      show Gl _ _ _ _ _ _ _ _ [(.ref b82)]
      refine o_astore W83 (L' := #[.val (.int p0), .val (.int p1), .val (.int p2), .val (.int p3), .val (.int 0), .val (.int 1), .val (.int (p0 &&& (255 : Int32))), .val (.int (p1 &&& (255 : Int32))), .val (.int (p2 &&& (255 : Int32))), .val (.ref b80), .val (.ref b82), .unset, .unset, .unset, .unset, .unset, .unset]) (pc' := 68) (hb hy at_66) rfl rfl rfl ?_
      refine o_iload W83 (pc' := 70) (hb hy at_68) rfl rfl ?_
      refine o_ifY W83 (pc' := 84) (hb hy at_70) (XT.i0_eq_t (by decide)) (by decide) rfl ?_
      refine o_iload W83 (pc' := 86) (hb hy at_84) rfl rfl ?_
      refine o_ifN W83 (pc' := 89) (hb hy at_86) (XT.i0_eq_f (by decide)) rfl ?_
      refine o_aload W83 (pc' := 91) (hb hy at_89) rfl rfl rfl ?_
      refine o_iload W83 (pc' := 93) (hb hy at_91) rfl rfl ?_
      refine o_static W83 (y := (⟨"java/lang/String", "valueOf", "(C)Ljava/lang/String;"⟩ : MethodName)) (w31 hw) (w32 hw) (w23 hw) (w33 hw) (by decide) (argsL := [(.int (p1 &&& (255 : Int32)))]) (CtrN.back (Wd := 1) W83 (rm17 l Z a0 hw gCS (p1 &&& (255 : Int32)) h83 W83.old SgCS NgCS (own_b255 _)) (w33 hw) (w23 hw) (by decide) (by decide)) (by rw [hml]; rfl) (lenOf pd13 rfl) (S := [(.ref b82)]) rfl (by exact Nat.le_of_eq rfl) (pc' := 96) (hb hy at_93) rfl (cells' := 8) (slots' := 47) rfl rfl (by decide) (by decide) (wy := []) (fun _ _ _ q => ⟨q.1, q.2.1⟩) all0 (fun _ K => IW.keep K sf0 W83.inv) ?_
      intro v84 T84 h84 lo84 W84 K84 q84
      obtain ⟨r1_84, r2_84, r3_84, P84_0, P84_1, P84_2, P84_3, P84_4, P84_5, rfl⟩ := q84.2.2
      show Gl _ _ _ _ _ _ _ _ [(.ref r1_84), (.ref b82)]
      have B85 : Arv Z h84 r2_84 r3_84 .byte (1 : Int32) [(.int (StrChars.lo8 (p1 &&& (255 : Int32))))] (.int 0) := P84_5
      have c86 := (P83_2.keep K84 nin0)
      have c87 := (P83_6.keep K84 nin0)
      have c88 := (P83_4.keep K84 nin0)
      have c89 := (P83_8.keep K84 nin0)
      have c90 := (P83_5.keep K84 nin0)
      have c91 := (P83_7.keep K84 nin0)
      have c92 := (P83_3.keep K84)
      have c93 := ((A82.keep K83).keep K84)
      refine o_virtualW W84 (y := (⟨"com/example/colophon/colophon/api/Html", "close", "(Ljava/lang/String;)Lcom/example/colophon/colophon/api/Html;"⟩ : MethodName)) (z := (⟨"com/example/colophon/colophon/api/Html", "close", "(Ljava/lang/String;)Lcom/example/colophon/colophon/api/Html;"⟩ : MethodName)) (w53 hw) (w54 hw) (o_nf W84 rfl (w56 hw)) (w56 hw) (w55 hw) (by decide) c93 (argsL := [(.ref r1_84)]) (CtrW.back (Wd := 0) W84 (rm37 l Z a0 hw gCS b82 r1_84 r1_83 r2_83 r3_83 r2_84 r3_84 (p1 &&& (255 : Int32)) h84 W84.old c86 c92 SgCS NgCS c87 c88 c89 c90 c91 (Nat.le_trans W82.zs P83_1) (Nat.le_trans W82.zs P83_0) P84_2 P84_3 B85 (own_ne P83_8.lt P84_1) P84_4) (w57 hw) (w2 hw) (by decide) (by decide) (own_EL hw)) (by rw [hml]; rfl) (lenOf pd21 rfl) (S := []) rfl (by exact Nat.le_of_eq rfl) (pc' := 99) (hb hy at_96) rfl (cells' := 10) (slots' := 59) rfl rfl (by decide) (by decide) (wy := [r2_83, r1_83]) (fun _ _ _ q => ⟨q.1, q.2.1⟩) (allS ⟨(Nat.le_trans W82.zs P83_1), (Or.inr (Nat.le_trans W82.keep.1 P83_1))⟩ (allS ⟨(Nat.le_trans W82.zs P83_0), (Or.inr (Nat.le_trans W82.keep.1 P83_0))⟩ all0))  ?_
      intro v94 T94 h94 V94 lo94 W94 K94 C94 q94
      obtain ⟨P94_0, P94_1, P94_2, P94_3, P94_4, rfl⟩ := q94.2.2
      show Gl _ _ _ _ _ _ _ _ [(.ref b82)]
      refine o_pop W94 (pc' := 100) (hb hy at_99) rfl rfl ?_
      refine o_aload W94 (pc' := 102) (hb hy at_100) rfl rfl rfl ?_
      refine o_aload W94 (pc' := 104) (hb hy at_102) rfl rfl rfl ?_
      have c95 := (A80.keep K81)
      have c96 := (c95.ext E82)
      have c97 := ((((P81_2.ext E82).keep K83 (ninS (own_ne c95.lt ge82) nin0)).keep K84 nin0).keep K94 (ninS (own_ne c96.lt P83_1) (ninS (own_ne c96.lt P83_0) nin0)))
      have c98 := (c86.keep K94 (ninS (own_ne A82.lt P83_1) (ninS (own_ne A82.lt P83_0) nin0)))
      have c99 := (P81_3.ext E82)
      have c100 := ((((P81_6.ext E82).keep K83 (ninS (own_ne P81_3.lt ge82) nin0)).keep K84 nin0).keep K94 (ninS (own_ne c99.lt P83_1) (ninS (own_ne c99.lt P83_0) nin0)))
      have c101 := ((((P81_4.ext E82).keep K83 (ninS (own_ne P81_3.lt ge82) nin0)).keep K84 nin0).keep K94 (ninS (own_ne c99.lt P83_1) (ninS (own_ne c99.lt P83_0) nin0)))
      have c102 := (P81_8.ext E82)
      have c103 := ((((P81_8.ext E82).keep K83 (ninS (own_ne P81_8.lt ge82) nin0)).keep K84 nin0).keep K94 (ninS (own_ne c102.lt P83_1) (ninS (own_ne c102.lt P83_0) nin0)))
      have c104 := ((((P81_5.ext E82).keep K83 (ninS (own_ne P81_3.lt ge82) nin0)).keep K84 nin0).keep K94 (ninS (own_ne c99.lt P83_1) (ninS (own_ne c99.lt P83_0) nin0)))
      have c105 := ((((P81_7.ext E82).keep K83 (ninS (own_ne P81_3.lt ge82) nin0)).keep K84 nin0).keep K94 (ninS (own_ne c99.lt P83_1) (ninS (own_ne c99.lt P83_0) nin0)))
      have c106 := (((c99.keep K83).keep K84).keep K94)
      have c107 := (c92.keep K94)
      have c108 := (((c96.keep K83).keep K84).keep K94)
      refine o_virtual W94 (y := (⟨"com/example/colophon/colophon/api/Html", "append", "(Lcom/example/colophon/colophon/api/Html;)Lcom/example/colophon/colophon/api/Html;"⟩ : MethodName)) (z := (⟨"com/example/colophon/colophon/api/Html", "append", "(Lcom/example/colophon/colophon/api/Html;)Lcom/example/colophon/colophon/api/Html;"⟩ : MethodName)) (w123 hw) (w124 hw) (o_nf W94 rfl (w126 hw)) (w126 hw) (w125 hw) (by decide) c108 (argsL := [(.ref b82)]) (CtrN.back (Wd := 0) W94 (rm69 l Z a0 hw gCS b80 b82 r1_81 r1_83 r2_81 r3_81 r2_83 r3_83 (StrChars.lo8 (60 : Int32)) (StrChars.lo8 (47 : Int32)) (StrChars.lo8 (p1 &&& (255 : Int32))) h94 W94.old c97 c98 c106 c107 P94_0 c100 c101 c103 c104 SgCS NgCS P94_3 P94_1 P94_2 c105 P94_4 (Nat.le_trans W80.zs P81_1) (Nat.le_trans W80.zs P81_0) (own_ne c99.lt P83_0)) (w127 hw) (w2 hw) (by decide) (by decide)) (by rw [hml]; rfl) (lenOf pd9 rfl) (S := []) rfl (by exact Nat.le_of_eq rfl) (pc' := 107) (hb hy at_104) rfl (cells' := 10) (slots' := 59) rfl rfl (by decide) (by decide) (wy := [r1_81, r2_81]) (fun _ _ _ q => ⟨q.1, q.2.1⟩) (allS ⟨(Nat.le_trans W80.zs P81_0), (Or.inr (Nat.le_trans W80.keep.1 P81_0))⟩ (allS ⟨(Nat.le_trans W80.zs P81_1), (Or.inr (Nat.le_trans W80.keep.1 P81_1))⟩ all0)) (fun _ K => IW.keep K (sfS (Safe.exa W94.al c106 (by decide) (by decide)) (sfS (own_safeB W94.2.2.2.1 (n := 16) (by decide) (own_EL16 hw) c103) sf0)) W94.inv) ?_
      intro v109 T109 h109 lo109 W109 K109 q109
      obtain ⟨P109_0, P109_1, P109_2, P109_3, P109_4, rfl⟩ := q109.2.2
      show Gl _ _ _ _ _ _ _ _ [(.ref b80)]
      refine o_astore W109 (L' := #[.val (.int p0), .val (.int p1), .val (.int p2), .val (.int p3), .val (.int 0), .val (.int 1), .val (.int (p0 &&& (255 : Int32))), .val (.int (p1 &&& (255 : Int32))), .val (.int (p2 &&& (255 : Int32))), .val (.ref b80), .val (.ref b82), .val (.ref b80), .unset, .unset, .unset, .unset, .unset]) (pc' := 109) (hb hy at_107) rfl rfl rfl ?_
      refine o_aload W109 (pc' := 111) (hb hy at_109) rfl rfl rfl ?_
      refine o_iload W109 (pc' := 113) (hb hy at_111) rfl rfl ?_
      refine o_static W109 (y := (⟨"java/lang/String", "valueOf", "(C)Ljava/lang/String;"⟩ : MethodName)) (w31 hw) (w32 hw) (w23 hw) (w33 hw) (by decide) (argsL := [(.int (p2 &&& (255 : Int32)))]) (CtrN.back (Wd := 1) W109 (rm17 l Z a0 hw gCS (p2 &&& (255 : Int32)) h109 W109.old SgCS NgCS (own_b255 _)) (w33 hw) (w23 hw) (by decide) (by decide)) (by rw [hml]; rfl) (lenOf pd13 rfl) (S := [(.ref b82)]) rfl (by exact Nat.le_of_eq rfl) (pc' := 116) (hb hy at_113) rfl (cells' := 12) (slots' := 64) rfl rfl (by decide) (by decide) (wy := []) (fun _ _ _ q => ⟨q.1, q.2.1⟩) all0 (fun _ K => IW.keep K sf0 W109.inv) ?_
      intro v110 T110 h110 lo110 W110 K110 q110
      obtain ⟨r1_110, r2_110, r3_110, P110_0, P110_1, P110_2, P110_3, P110_4, P110_5, rfl⟩ := q110.2.2
      show Gl _ _ _ _ _ _ _ _ [(.ref r1_110), (.ref b82)]
      have B111 : Arv Z h110 r2_110 r3_110 .byte (1 : Int32) [(.int (StrChars.lo8 (p2 &&& (255 : Int32))))] (.int 0) := P110_5
      have c112 := ((c98.keep K109 (ninS (own_ne' P81_3.lt ge82) (ninS (own_ne' P81_8.lt ge82) nin0))).keep K110 nin0)
      have c113 := ((P94_0.keep K109 (ninS (own_ne' c99.lt P83_0) (ninS (own_ne' c102.lt P83_0) nin0))).keep K110 nin0)
      have c114 := ((P94_1.keep K109 (ninS (own_ne' c99.lt P83_0) (ninS (own_ne' c102.lt P83_0) nin0))).keep K110 nin0)
      have c115 := ((P94_2.keep K109 (ninS (own_ne' c99.lt P83_1) (ninS (own_ne' c102.lt P83_1) nin0))).keep K110 nin0)
      have c116 := ((P94_3.keep K109 (ninS (own_ne' c99.lt P83_0) (ninS (own_ne' c102.lt P83_0) nin0))).keep K110 nin0)
      have c117 := ((P94_4.keep K109 (ninS (own_ne' c99.lt P83_0) (ninS (own_ne' c102.lt P83_0) nin0))).keep K110 nin0)
      have c118 := ((c107.keep K109).keep K110)
      have c119 := (P94_2.keep K109 (ninS (own_ne' c99.lt P83_1) (ninS (own_ne' c102.lt P83_1) nin0)))
      have c120 := (((c93.keep K94).keep K109).keep K110)
      refine o_virtualW W110 (y := (⟨"com/example/colophon/colophon/api/Html", "close", "(Ljava/lang/String;)Lcom/example/colophon/colophon/api/Html;"⟩ : MethodName)) (z := (⟨"com/example/colophon/colophon/api/Html", "close", "(Ljava/lang/String;)Lcom/example/colophon/colophon/api/Html;"⟩ : MethodName)) (w53 hw) (w54 hw) (o_nf W110 rfl (w56 hw)) (w56 hw) (w55 hw) (by decide) c120 (argsL := [(.ref r1_110)]) (CtrW.back (Wd := 0) W110 (rm83 l Z a0 hw gCS b82 r1_110 r1_83 r2_83 r3_83 (StrChars.lo8 (60 : Int32)) (StrChars.lo8 (47 : Int32)) (StrChars.lo8 (p1 &&& (255 : Int32))) r2_110 r3_110 (p2 &&& (255 : Int32)) h110 W110.old c112 c118 SgCS NgCS c113 c114 c115 c116 c117 (Nat.le_trans W82.zs P83_1) (Nat.le_trans W82.zs P83_0) P110_2 P110_3 B111 (own_ne c119.lt P110_1) P110_4) (w57 hw) (w2 hw) (by decide) (by decide) (own_EL hw)) (by rw [hml]; rfl) (lenOf pd21 rfl) (S := []) rfl (by exact Nat.le_of_eq rfl) (pc' := 119) (hb hy at_116) rfl (cells' := 14) (slots' := 76) rfl rfl (by decide) (by decide) (wy := [r2_83, r1_83]) (fun _ _ _ q => ⟨q.1, q.2.1⟩) (allS ⟨(Nat.le_trans W82.zs P83_1), (Or.inr (Nat.le_trans W82.keep.1 P83_1))⟩ (allS ⟨(Nat.le_trans W82.zs P83_0), (Or.inr (Nat.le_trans W82.keep.1 P83_0))⟩ all0))  ?_
      intro v121 T121 h121 V121 lo121 W121 K121 C121 q121
      obtain ⟨P121_0, P121_1, P121_2, P121_3, P121_4, rfl⟩ := q121.2.2
      show Gl _ _ _ _ _ _ _ _ [(.ref b82)]
      refine o_pop W121 (pc' := 120) (hb hy at_119) rfl rfl ?_
      refine o_iload W121 (pc' := 122) (hb hy at_120) rfl rfl ?_
      refine o_ifY W121 (pc' := 129) (hb hy at_122) (XT.i0_eq_t (by decide)) (by decide) rfl ?_
      refine o_iconst W121 (v := 0) (pc' := 130) (hb hy at_129) rfl rfl ?_
      refine o_iload W121 (pc' := 132) (hb hy at_130) rfl rfl ?_
      refine o_ifN W121 (pc' := 135) (hb hy at_132) (XT.i0_eq_f (by decide)) rfl ?_
      refine o_iconst W121 (v := 4) (pc' := 136) (hb hy at_135) rfl rfl ?_
      refine o_goto W121 (pc' := 140) (hb hy at_136) (by decide) rfl ?_
      refine o_iadd W121 (v := 4) (pc' := 141) (hb hy at_140) (by decide) rfl ?_
      refine o_istore W121 (L' := #[.val (.int p0), .val (.int p1), .val (.int p2), .val (.int p3), .val (.int 0), .val (.int 1), .val (.int (p0 &&& (255 : Int32))), .val (.int (p1 &&& (255 : Int32))), .val (.int (p2 &&& (255 : Int32))), .val (.ref b80), .val (.ref b82), .val (.ref b80), .val (.int 4), .unset, .unset, .unset, .unset]) (pc' := 143) (hb hy at_141) rfl rfl ?_
      refine o_iload W121 (pc' := 145) (hb hy at_143) rfl rfl ?_
      refine o_newP W121 (aty := .char) (w172 hw) (fun _ E => IW.ext E W121.inv) (by decide) (cap := 4) (by decide) (by decide) (pc' := 147) (hb hy at_145) rfl (cells' := 15) (slots' := 80) rfl rfl (by decide) (by decide) (vs := [(.int 0), (.int 0), (.int 0), (.int 0)]) (dv := (.int 0)) rfl rfl ?_
      intro b122 T122 h122 k122 W122 E122 ge122 gz122 gb122 V122
      refine o_astore W122 (L' := #[.val (.int p0), .val (.int p1), .val (.int p2), .val (.int p3), .val (.int 0), .val (.int 1), .val (.int (p0 &&& (255 : Int32))), .val (.int (p1 &&& (255 : Int32))), .val (.int (p2 &&& (255 : Int32))), .val (.ref b80), .val (.ref b82), .val (.ref b80), .val (.int 4), .val (.ref b122), .unset, .unset, .unset]) (pc' := 149) (hb hy at_147) rfl rfl rfl ?_
      refine o_iconst W122 (v := 0) (pc' := 150) (hb hy at_149) rfl rfl ?_
      refine o_istore W122 (L' := #[.val (.int p0), .val (.int p1), .val (.int p2), .val (.int p3), .val (.int 0), .val (.int 1), .val (.int (p0 &&& (255 : Int32))), .val (.int (p1 &&& (255 : Int32))), .val (.int (p2 &&& (255 : Int32))), .val (.ref b80), .val (.ref b82), .val (.ref b80), .val (.int 4), .val (.ref b122), .val (.int 0), .unset, .unset]) (pc' := 152) (hb hy at_150) rfl rfl ?_
      refine o_iload W122 (pc' := 154) (hb hy at_152) rfl rfl ?_
      refine o_ifY W122 (pc' := 168) (hb hy at_154) (XT.i0_eq_t (by decide)) (by decide) rfl ?_
      refine o_iload W122 (pc' := 170) (hb hy at_168) rfl rfl ?_
      refine o_ifN W122 (pc' := 173) (hb hy at_170) (XT.i0_eq_f (by decide)) rfl ?_
      refine o_aload W122 (pc' := 175) (hb hy at_173) rfl rfl rfl ?_
      refine o_iload W122 (pc' := 177) (hb hy at_175) rfl rfl ?_
      refine o_iload W122 (pc' := 179) (hb hy at_177) rfl rfl ?_
      refine o_static W122 (y := (⟨"com/example/colophon/colophon/api/HtmlAppendPinLaw", "put", "([CIC)V"⟩ : MethodName)) (w173 hw) (w174 hw) (w175 hw) (w176 hw) (by decide) (argsL := [(.ref b122), (.int 0), (.int (p1 &&& (255 : Int32)))]) (CtrN.back (Wd := 0) W122 (rm38 l Z a0 hw b122 (p1 &&& (255 : Int32)) k122 h122 W122.old V122 gz122 (own_b255 _)) (w176 hw) (w175 hw) (by decide) (by decide)) (by rw [hml]; rfl) (lenOf pd22 rfl) (S := []) rfl (by exact Nat.le_of_eq rfl) (pc' := 182) (hb hy at_179) rfl (cells' := 15) (slots' := 80) rfl rfl (by decide) (by decide) (wy := [b122]) (fun _ _ _ q => ⟨q.1, q.2.1⟩) (allS ⟨gz122, (Or.inr gb122)⟩ all0) (fun _ K => IW.keep K (sfS (Safe.arv W122.al V122 (by decide)) sf0) W122.inv) ?_
      intro v123 T123 h123 lo123 W123 K123 q123
      obtain ⟨P123_0, rfl⟩ := q123.2.2
      show Gl _ _ _ _ _ _ _ _ []
      refine o_iload W123 (pc' := 184) (hb hy at_182) rfl rfl ?_
      refine o_ifN W123 (pc' := 187) (hb hy at_184) (XT.i0_eq_f (by decide)) rfl ?_
      refine o_bipush W123 (v := 8) (pc' := 189) (hb hy at_187) (by decide) rfl ?_
      refine o_goto W123 (pc' := 193) (hb hy at_189) (by decide) rfl ?_
      refine o_newP W123 (aty := .char) (w172 hw) (fun _ E => IW.ext E W123.inv) (by decide) (cap := 8) (by decide) (by decide) (pc' := 195) (hb hy at_193) rfl (cells' := 16) (slots' := 88) rfl rfl (by decide) (by decide) (vs := [(.int 0), (.int 0), (.int 0), (.int 0), (.int 0), (.int 0), (.int 0), (.int 0)]) (dv := (.int 0)) rfl rfl ?_
      intro b124 T124 h124 k124 W124 E124 ge124 gz124 gb124 V124
      refine o_astore W124 (L' := #[.val (.int p0), .val (.int p1), .val (.int p2), .val (.int p3), .val (.int 0), .val (.int 1), .val (.int (p0 &&& (255 : Int32))), .val (.int (p1 &&& (255 : Int32))), .val (.int (p2 &&& (255 : Int32))), .val (.ref b80), .val (.ref b82), .val (.ref b80), .val (.int 4), .val (.ref b122), .val (.int 0), .val (.ref b124), .unset]) (pc' := 197) (hb hy at_195) rfl rfl rfl ?_
      refine o_iconst W124 (v := 0) (pc' := 198) (hb hy at_197) rfl rfl ?_
      refine o_istore W124 (L' := #[.val (.int p0), .val (.int p1), .val (.int p2), .val (.int p3), .val (.int 0), .val (.int 1), .val (.int (p0 &&& (255 : Int32))), .val (.int (p1 &&& (255 : Int32))), .val (.int (p2 &&& (255 : Int32))), .val (.ref b80), .val (.ref b82), .val (.ref b80), .val (.int 4), .val (.ref b122), .val (.int 0), .val (.ref b124), .val (.int 0)]) (pc' := 200) (hb hy at_198) rfl rfl ?_
      refine o_iload W124 (pc' := 202) (hb hy at_200) rfl rfl ?_
      refine o_ifN W124 (pc' := 205) (hb hy at_202) (XT.i0_eq_f (by decide)) rfl ?_
      refine o_aload W124 (pc' := 207) (hb hy at_205) rfl rfl rfl ?_
      refine o_iconst W124 (v := 0) (pc' := 208) (hb hy at_207) rfl rfl ?_
      refine o_iload W124 (pc' := 210) (hb hy at_208) rfl rfl ?_
      refine o_static W124 (y := (⟨"com/example/colophon/colophon/api/HtmlAppendPinLaw", "put", "([CIC)V"⟩ : MethodName)) (w173 hw) (w174 hw) (w175 hw) (w176 hw) (by decide) (argsL := [(.ref b124), (.int 0), (.int (p1 &&& (255 : Int32)))]) (CtrN.back (Wd := 0) W124 (rm84 l Z a0 hw b124 (p1 &&& (255 : Int32)) k124 h124 W124.old V124 gz124 (own_b255 _)) (w176 hw) (w175 hw) (by decide) (by decide)) (by rw [hml]; rfl) (lenOf pd22 rfl) (S := []) rfl (by exact Nat.le_of_eq rfl) (pc' := 213) (hb hy at_210) rfl (cells' := 16) (slots' := 88) rfl rfl (by decide) (by decide) (wy := [b124]) (fun _ _ _ q => ⟨q.1, q.2.1⟩) (allS ⟨gz124, (Or.inr gb124)⟩ all0) (fun _ K => IW.keep K (sfS (Safe.arv W124.al V124 (by decide)) sf0) W124.inv) ?_
      intro v125 T125 h125 lo125 W125 K125 q125
      obtain ⟨P125_0, rfl⟩ := q125.2.2
      show Gl _ _ _ _ _ _ _ _ []
      refine o_iconst W125 (v := 4) (pc' := 214) (hb hy at_213) rfl rfl ?_
      refine o_istore W125 (L' := #[.val (.int p0), .val (.int p1), .val (.int p2), .val (.int p3), .val (.int 0), .val (.int 1), .val (.int (p0 &&& (255 : Int32))), .val (.int (p1 &&& (255 : Int32))), .val (.int (p2 &&& (255 : Int32))), .val (.ref b80), .val (.ref b82), .val (.ref b80), .val (.int 4), .val (.ref b122), .val (.int 0), .val (.ref b124), .val (.int 4)]) (pc' := 216) (hb hy at_214) rfl rfl ?_
      refine o_aload W125 (pc' := 218) (hb hy at_216) rfl rfl rfl ?_
      refine o_iload W125 (pc' := 220) (hb hy at_218) rfl rfl ?_
      refine o_iload W125 (pc' := 222) (hb hy at_220) rfl rfl ?_
      refine o_static W125 (y := (⟨"com/example/colophon/colophon/api/HtmlAppendPinLaw", "put", "([CIC)V"⟩ : MethodName)) (w173 hw) (w174 hw) (w175 hw) (w176 hw) (by decide) (argsL := [(.ref b124), (.int 4), (.int (p2 &&& (255 : Int32)))]) (CtrN.back (Wd := 0) W125 (rm85 l Z a0 hw b124 (p2 &&& (255 : Int32)) k124 (p1 &&& (255 : Int32)) h125 W125.old P125_0 gz124 (own_b255 _)) (w176 hw) (w175 hw) (by decide) (by decide)) (by rw [hml]; rfl) (lenOf pd22 rfl) (S := []) rfl (by exact Nat.le_of_eq rfl) (pc' := 225) (hb hy at_222) rfl (cells' := 16) (slots' := 88) rfl rfl (by decide) (by decide) (wy := [b124]) (fun _ _ _ q => ⟨q.1, q.2.1⟩) (allS ⟨gz124, (Or.inr gb124)⟩ all0) (fun _ K => IW.keep K (sfS (Safe.arv W125.al P125_0 (by decide)) sf0) W125.inv) ?_
      intro v126 T126 h126 lo126 W126 K126 q126
      obtain ⟨P126_0, rfl⟩ := q126.2.2
      show Gl _ _ _ _ _ _ _ _ []
      refine o_aload W126 (pc' := 227) (hb hy at_225) rfl rfl rfl ?_
      refine o_aload W126 (pc' := 229) (hb hy at_227) rfl rfl rfl ?_
      refine o_acmpN W126 (pc' := 232) (hb hy at_229) rfl rfl (XT.aa_ne_f rfl) rfl ?_
      refine o_aload W126 (pc' := 234) (hb hy at_232) rfl rfl rfl ?_
      have c127 := (((c108.keep K109).keep K110).keep K121)
      have c128 := ((c127.ext E122).keep K123)
      have c129 := ((((((((c97.keep K109 (ninS (own_ne A80.lt P81_0) (ninS (own_ne A80.lt P81_1) nin0))).keep K110 nin0).keep K121 (ninS (own_ne c96.lt P83_1) (ninS (own_ne c96.lt P83_0) nin0))).ext E122).keep K123 (ninS (own_ne c127.lt ge122) nin0)).ext E124).keep K125 (ninS (own_ne c128.lt ge124) nin0)).keep K126 (ninS (own_ne c128.lt ge124) nin0))
      have c130 := (((c106.keep K109).keep K110).keep K121)
      have c131 := ((c130.ext E122).keep K123)
      have c132 := (((((((P109_1.keep K110 nin0).keep K121 (ninS (own_ne c99.lt P83_1) (ninS (own_ne c99.lt P83_0) nin0))).ext E122).keep K123 (ninS (own_ne c130.lt ge122) nin0)).ext E124).keep K125 (ninS (own_ne c131.lt ge124) nin0)).keep K126 (ninS (own_ne c131.lt ge124) nin0))
      have c133 := (((((((P109_0.keep K110 nin0).keep K121 (ninS (own_ne c99.lt P83_1) (ninS (own_ne c99.lt P83_0) nin0))).ext E122).keep K123 (ninS (own_ne c130.lt ge122) nin0)).ext E124).keep K125 (ninS (own_ne c131.lt ge124) nin0)).keep K126 (ninS (own_ne c131.lt ge124) nin0))
      have c134 := (((((((P109_3.keep K110 nin0).keep K121 (ninS (own_ne c99.lt P83_1) (ninS (own_ne c99.lt P83_0) nin0))).ext E122).keep K123 (ninS (own_ne c130.lt ge122) nin0)).ext E124).keep K125 (ninS (own_ne c131.lt ge124) nin0)).keep K126 (ninS (own_ne c131.lt ge124) nin0))
      have c135 := ((P109_2.keep K110 nin0).keep K121 (ninS (own_ne c102.lt P83_1) (ninS (own_ne c102.lt P83_0) nin0)))
      have c136 := ((c135.ext E122).keep K123 (ninS (own_ne c135.lt ge122) nin0))
      have c137 := (((((((P109_2.keep K110 nin0).keep K121 (ninS (own_ne c102.lt P83_1) (ninS (own_ne c102.lt P83_0) nin0))).ext E122).keep K123 (ninS (own_ne c135.lt ge122) nin0)).ext E124).keep K125 (ninS (own_ne c136.lt ge124) nin0)).keep K126 (ninS (own_ne c136.lt ge124) nin0))
      have c138 := (((c131.ext E124).keep K125).keep K126)
      have c139 := (((c128.ext E124).keep K125).keep K126)
      refine o_virtual W126 (y := (⟨"com/example/colophon/colophon/api/Html", "toString", "()Ljava/lang/String;"⟩ : MethodName)) (z := (⟨"com/example/colophon/colophon/api/Html", "toString", "()Ljava/lang/String;"⟩ : MethodName)) (w177 hw) (w178 hw) (o_nf W126 rfl (w180 hw)) (w180 hw) (w179 hw) (by decide) c139 (argsL := []) (CtrN.back (Wd := 0) W126 (rm61 l Z a0 hw gCS b80 r1_81 r2_81 r3_81 (StrChars.lo8 (60 : Int32)) (StrChars.lo8 (47 : Int32)) (StrChars.lo8 (p1 &&& (255 : Int32))) h126 W126.old c129 c138 c132 c133 SgCS NgCS c134 c137) (w181 hw) (w2 hw) (by decide) (by decide)) (by rw [hml]; rfl) (lenOf pd29 rfl) (S := []) rfl (by exact Nat.le_of_eq rfl) (pc' := 237) (hb hy at_234) rfl (cells' := 18) (slots' := 96) rfl rfl (by decide) (by decide) (wy := []) (fun _ _ _ q => ⟨q.1, q.2.1⟩) all0 (fun _ K => IW.keep K sf0 W126.inv) ?_
      intro v140 T140 h140 lo140 W140 K140 q140
      obtain ⟨r1_140, r2_140, r3_140, P140_0, P140_1, P140_2, P140_3, P140_4, P140_5, rfl⟩ := q140.2.2
      show Gl _ _ _ _ _ _ _ _ [(.ref r1_140)]
      refine o_new W140 (w216 hw) (w40 hw) (w23 hw) (fun _ E => IW.ext E W140.inv) (pc' := 240) (hb hy at_237) rfl (cells' := 19) (slots' := 100) rfl rfl (by decide) (by decide) ?_
      intro b141 T141 h141 W141 E141 ge141 gz141 gb141 A141 D141
      have Fb141_value : Fld Z h141 b141 "java/lang/String" "value" "[B" .null := D141 (Or.inr (w50 hw)) (ty := (.array .byte)) (by decide)
      have Fb141_coder : Fld Z h141 b141 "java/lang/String" "coder" "B" (.int 0) := D141 (Or.inr (w52 hw)) (ty := .byte) (by decide)
      refine o_dup W141 (pc' := 241) (hb hy at_240) rfl rfl ?_
      refine o_aload W141 (pc' := 243) (hb hy at_241) rfl rfl rfl ?_
      have c142 := (((((P123_0.ext E124).keep K125 (ninS (own_ne P123_0.lt ge124) nin0)).keep K126 (ninS (own_ne P123_0.lt ge124) nin0)).keep K140 nin0).ext E141)
      have ok143 : own_ok [(60 : Int32), (47 : Int32), (p1 &&& (255 : Int32)), (62 : Int32)] := ⟨by simp only [List.mem_cons, List.not_mem_nil, or_false, forall_eq_or_imp, forall_eq, false_imp_iff, implies_true]; exact ⟨(by unfold own_b; decide), (by unfold own_b; decide), (own_b255 _), (by unfold own_b; decide)⟩, Nat.le_of_ble_eq_true rfl⟩
      have sf144 := own_safeS (EL := consts_1) W141.al A141 Fb141_value
      refine o_special W141 (y := (⟨"java/lang/String", "<init>", "([C)V"⟩ : MethodName)) rfl (w217 hw) (w218 hw) (w219 hw) (by decide) (a := b141) (argsL := [(.ref b122)]) (StrChars.Road.backV (W := 2) W141.2.2.2.1 (own_hV hw) (kI := 4) (w40 hw) (cs := [(60 : Int32), (47 : Int32), (p1 &&& (255 : Int32)), (62 : Int32)]) (bs := [((60 : Int32)).toInt8.toInt32, ((47 : Int32)).toInt8.toInt32, ((p1 &&& (255 : Int32))).toInt8.toInt32, ((62 : Int32)).toInt8.toInt32]) (n := 4) (n0 := Z.heap.size) gz141 W141.zs A141 Fb141_value Fb141_coder c142 (SgCS.ext W141.ox) NgCS rfl rfl (by decide) (by decide) ok143.1 rfl (by decide) (by decide)) (by rw [hml]; rfl) (lenOf pd31 rfl) (S := [(.ref b141), (.ref r1_140)]) rfl (by exact Nat.le_of_eq rfl) (pc' := 246) (hb hy at_243) rfl (cells' := 20) (slots' := 104) rfl rfl (by decide) (by decide) (wy := [b141]) (fun _ _ _ q => ⟨q.2.1, q.2.2.1⟩) (allS ⟨gz141, (Or.inr gb141)⟩ all0) (fun _ K => IW.keep K (sfS sf144 sf0) W141.inv) ?_
      intro v145 T145 h145 lo145 W145 K145 q145
      obtain ⟨rfl, -, -, X145, Fc145, t145, kb145, gz145, ge145, -, Fv145, A145⟩ := q145
      have B145 : Arv Z h145 t145 kb145 .byte (4 : Int32) [(.int (StrChars.lo8 (60 : Int32))), (.int (StrChars.lo8 (47 : Int32))), (.int (StrChars.lo8 (p1 &&& (255 : Int32)))), (.int (StrChars.lo8 (62 : Int32)))] (.int 0) := A145
      show Gl _ _ _ _ _ _ _ _ [(.ref b141), (.ref r1_140)]
      have c146 := ((P140_4.ext E141).keep K145 (ninS (own_ne P140_2.lt ge141) nin0))
      have c147 := ((P140_3.ext E141).keep K145 (ninS (own_ne P140_2.lt ge141) nin0))
      have c148 := ((P140_5.ext E141).keep K145 (ninS (own_ne P140_5.lt ge141) nin0))
      have c149 := ((P140_2.ext E141).keep K145)
      refine o_virtual W145 (y := (⟨"java/lang/String", "equals", "(Ljava/lang/Object;)Z"⟩ : MethodName)) (z := (⟨"java/lang/String", "equals", "(Ljava/lang/Object;)Z"⟩ : MethodName)) (w233 hw) (w234 hw) (o_nf W145 rfl (w236 hw)) (w236 hw) (w235 hw) (by decide) c149 (argsL := [(.ref b141)]) (CtrN.back (Wd := 0) W145 (rm63 l Z a0 hw gCS r1_140 b141 r2_140 t145 r3_140 (StrChars.lo8 (60 : Int32)) (StrChars.lo8 (47 : Int32)) (StrChars.lo8 (p1 &&& (255 : Int32))) kb145 (p1 &&& (255 : Int32)) h145 W145.old c149 X145 (own_ne P140_2.lt ge141) SgCS NgCS c146 Fc145 c147 Fv145 c148 B145 rfl rfl rfl) (w237 hw) (w23 hw) (by decide) (by decide)) (by rw [hml]; rfl) (lenOf pd33 rfl) (S := []) rfl (by exact Nat.le_of_eq rfl) (pc' := 249) (hb hy at_246) rfl (cells' := 20) (slots' := 104) rfl rfl (by decide) (by decide) (wy := []) (fun _ _ _ q => ⟨q.1, q.2.1⟩) all0 (fun _ K => IW.keep K sf0 W145.inv) ?_
      intro v150 T150 h150 lo150 W150 K150 q150
      obtain rfl := q150.2.2
      show Gl _ _ _ _ _ _ _ _ [(.int 1)]
      refine o_ifN W150 (pc' := 252) (hb hy at_249) (XT.i0_eq_f (by decide)) rfl ?_
      refine o_aload W150 (pc' := 254) (hb hy at_252) rfl rfl rfl ?_
      have c151 := (c120.keep K121)
      have c152 := ((c151.ext E122).keep K123)
      have c153 := ((((c152.ext E124).keep K125).keep K126).keep K140)
      have c154 := ((((((((((c112.keep K121 (ninS (own_ne A82.lt P83_1) (ninS (own_ne A82.lt P83_0) nin0))).ext E122).keep K123 (ninS (own_ne c151.lt ge122) nin0)).ext E124).keep K125 (ninS (own_ne c152.lt ge124) nin0)).keep K126 (ninS (own_ne c152.lt ge124) nin0)).keep K140 nin0).ext E141).keep K145 (ninS (own_ne c153.lt ge141) nin0)).keep K150 nin0)
      have c155 := (c118.keep K121)
      have c156 := ((c155.ext E122).keep K123)
      have c157 := ((((c156.ext E124).keep K125).keep K126).keep K140)
      have c158 := (((((((((P121_1.ext E122).keep K123 (ninS (own_ne c155.lt ge122) nin0)).ext E124).keep K125 (ninS (own_ne c156.lt ge124) nin0)).keep K126 (ninS (own_ne c156.lt ge124) nin0)).keep K140 nin0).ext E141).keep K145 (ninS (own_ne c157.lt ge141) nin0)).keep K150 nin0)
      have c159 := (((((((((P121_0.ext E122).keep K123 (ninS (own_ne c155.lt ge122) nin0)).ext E124).keep K125 (ninS (own_ne c156.lt ge124) nin0)).keep K126 (ninS (own_ne c156.lt ge124) nin0)).keep K140 nin0).ext E141).keep K145 (ninS (own_ne c157.lt ge141) nin0)).keep K150 nin0)
      have c160 := (((((((((P121_3.ext E122).keep K123 (ninS (own_ne c155.lt ge122) nin0)).ext E124).keep K125 (ninS (own_ne c156.lt ge124) nin0)).keep K126 (ninS (own_ne c156.lt ge124) nin0)).keep K140 nin0).ext E141).keep K145 (ninS (own_ne c157.lt ge141) nin0)).keep K150 nin0)
      have c161 := ((P121_2.ext E122).keep K123 (ninS (own_ne P121_2.lt ge122) nin0))
      have c162 := ((((c161.ext E124).keep K125 (ninS (own_ne c161.lt ge124) nin0)).keep K126 (ninS (own_ne c161.lt ge124) nin0)).keep K140 nin0)
      have c163 := (((((((((P121_2.ext E122).keep K123 (ninS (own_ne P121_2.lt ge122) nin0)).ext E124).keep K125 (ninS (own_ne c161.lt ge124) nin0)).keep K126 (ninS (own_ne c161.lt ge124) nin0)).keep K140 nin0).ext E141).keep K145 (ninS (own_ne c162.lt ge141) nin0)).keep K150 nin0)
      have c164 := (((c157.ext E141).keep K145).keep K150)
      have c165 := (((c153.ext E141).keep K145).keep K150)
      refine o_virtual W150 (y := (⟨"com/example/colophon/colophon/api/Html", "toString", "()Ljava/lang/String;"⟩ : MethodName)) (z := (⟨"com/example/colophon/colophon/api/Html", "toString", "()Ljava/lang/String;"⟩ : MethodName)) (w177 hw) (w178 hw) (o_nf W150 rfl (w180 hw)) (w180 hw) (w179 hw) (by decide) c165 (argsL := []) (CtrN.back (Wd := 0) W150 (rm95 l Z a0 hw gCS b82 r1_83 r2_83 r3_83 (StrChars.lo8 (60 : Int32)) (StrChars.lo8 (47 : Int32)) (StrChars.lo8 (p1 &&& (255 : Int32))) (StrChars.lo8 (p2 &&& (255 : Int32))) h150 W150.old c154 c164 c158 c159 SgCS NgCS c160 c163) (w181 hw) (w2 hw) (by decide) (by decide)) (by rw [hml]; rfl) (lenOf pd29 rfl) (S := []) rfl (by exact Nat.le_of_eq rfl) (pc' := 257) (hb hy at_254) rfl (cells' := 22) (slots' := 116) rfl rfl (by decide) (by decide) (wy := []) (fun _ _ _ q => ⟨q.1, q.2.1⟩) all0 (fun _ K => IW.keep K sf0 W150.inv) ?_
      intro v166 T166 h166 lo166 W166 K166 q166
      obtain ⟨r1_166, r2_166, r3_166, P166_0, P166_1, P166_2, P166_3, P166_4, P166_5, rfl⟩ := q166.2.2
      show Gl _ _ _ _ _ _ _ _ [(.ref r1_166)]
      refine o_new W166 (w216 hw) (w40 hw) (w23 hw) (fun _ E => IW.ext E W166.inv) (pc' := 260) (hb hy at_257) rfl (cells' := 23) (slots' := 120) rfl rfl (by decide) (by decide) ?_
      intro b167 T167 h167 W167 E167 ge167 gz167 gb167 A167 D167
      have Fb167_value : Fld Z h167 b167 "java/lang/String" "value" "[B" .null := D167 (Or.inr (w50 hw)) (ty := (.array .byte)) (by decide)
      have Fb167_coder : Fld Z h167 b167 "java/lang/String" "coder" "B" (.int 0) := D167 (Or.inr (w52 hw)) (ty := .byte) (by decide)
      refine o_dup W167 (pc' := 261) (hb hy at_260) rfl rfl ?_
      refine o_aload W167 (pc' := 263) (hb hy at_261) rfl rfl rfl ?_
      have c168 := (P126_0.keep K140 nin0)
      have c169 := ((((((P126_0.keep K140 nin0).ext E141).keep K145 (ninS (own_ne c168.lt ge141) nin0)).keep K150 nin0).keep K166 nin0).ext E167)
      have ok170 : own_ok [(60 : Int32), (47 : Int32), (p1 &&& (255 : Int32)), (62 : Int32), (60 : Int32), (47 : Int32), (p2 &&& (255 : Int32)), (62 : Int32)] := ⟨by simp only [List.mem_cons, List.not_mem_nil, or_false, forall_eq_or_imp, forall_eq, false_imp_iff, implies_true]; exact ⟨(by unfold own_b; decide), (by unfold own_b; decide), (own_b255 _), (by unfold own_b; decide), (by unfold own_b; decide), (by unfold own_b; decide), (own_b255 _), (by unfold own_b; decide)⟩, Nat.le_of_ble_eq_true rfl⟩
      have sf171 := own_safeS (EL := consts_1) W167.al A167 Fb167_value
      refine o_special W167 (y := (⟨"java/lang/String", "<init>", "([C)V"⟩ : MethodName)) rfl (w217 hw) (w218 hw) (w219 hw) (by decide) (a := b167) (argsL := [(.ref b124)]) (StrChars.Road.backV (W := 2) W167.2.2.2.1 (own_hV hw) (kI := 4) (w40 hw) (cs := [(60 : Int32), (47 : Int32), (p1 &&& (255 : Int32)), (62 : Int32), (60 : Int32), (47 : Int32), (p2 &&& (255 : Int32)), (62 : Int32)]) (bs := [((60 : Int32)).toInt8.toInt32, ((47 : Int32)).toInt8.toInt32, ((p1 &&& (255 : Int32))).toInt8.toInt32, ((62 : Int32)).toInt8.toInt32, ((60 : Int32)).toInt8.toInt32, ((47 : Int32)).toInt8.toInt32, ((p2 &&& (255 : Int32))).toInt8.toInt32, ((62 : Int32)).toInt8.toInt32]) (n := 8) (n0 := Z.heap.size) gz167 W167.zs A167 Fb167_value Fb167_coder c169 (SgCS.ext W167.ox) NgCS rfl rfl (by decide) (by decide) ok170.1 rfl (by decide) (by decide)) (by rw [hml]; rfl) (lenOf pd31 rfl) (S := [(.ref b167), (.ref r1_166)]) rfl (by exact Nat.le_of_eq rfl) (pc' := 266) (hb hy at_263) rfl (cells' := 24) (slots' := 128) rfl rfl (by decide) (by decide) (wy := [b167]) (fun _ _ _ q => ⟨q.2.1, q.2.2.1⟩) (allS ⟨gz167, (Or.inr gb167)⟩ all0) (fun _ K => IW.keep K (sfS sf171 sf0) W167.inv) ?_
      intro v172 T172 h172 lo172 W172 K172 q172
      obtain ⟨rfl, -, -, X172, Fc172, t172, kb172, gz172, ge172, -, Fv172, A172⟩ := q172
      have B172 : Arv Z h172 t172 kb172 .byte (8 : Int32) [(.int (StrChars.lo8 (60 : Int32))), (.int (StrChars.lo8 (47 : Int32))), (.int (StrChars.lo8 (p1 &&& (255 : Int32)))), (.int (StrChars.lo8 (62 : Int32))), (.int (StrChars.lo8 (60 : Int32))), (.int (StrChars.lo8 (47 : Int32))), (.int (StrChars.lo8 (p2 &&& (255 : Int32)))), (.int (StrChars.lo8 (62 : Int32)))] (.int 0) := A172
      show Gl _ _ _ _ _ _ _ _ [(.ref b167), (.ref r1_166)]
      have c173 := ((P166_4.ext E167).keep K172 (ninS (own_ne P166_2.lt ge167) nin0))
      have c174 := ((P166_3.ext E167).keep K172 (ninS (own_ne P166_2.lt ge167) nin0))
      have c175 := ((P166_5.ext E167).keep K172 (ninS (own_ne P166_5.lt ge167) nin0))
      have c176 := ((P166_2.ext E167).keep K172)
      refine o_virtual W172 (y := (⟨"java/lang/String", "equals", "(Ljava/lang/Object;)Z"⟩ : MethodName)) (z := (⟨"java/lang/String", "equals", "(Ljava/lang/Object;)Z"⟩ : MethodName)) (w233 hw) (w234 hw) (o_nf W172 rfl (w236 hw)) (w236 hw) (w235 hw) (by decide) c176 (argsL := [(.ref b167)]) (CtrN.back (Wd := 0) W172 (rm97 l Z a0 hw gCS r1_166 b167 r2_166 t172 r3_166 (StrChars.lo8 (60 : Int32)) (StrChars.lo8 (47 : Int32)) (StrChars.lo8 (p1 &&& (255 : Int32))) (StrChars.lo8 (p2 &&& (255 : Int32))) kb172 (p1 &&& (255 : Int32)) (p2 &&& (255 : Int32)) h172 W172.old c176 X172 (own_ne P166_2.lt ge167) SgCS NgCS c173 Fc172 c174 Fv172 c175 B172 rfl rfl rfl rfl) (w237 hw) (w23 hw) (by decide) (by decide)) (by rw [hml]; rfl) (lenOf pd33 rfl) (S := []) rfl (by exact Nat.le_of_eq rfl) (pc' := 269) (hb hy at_266) rfl (cells' := 24) (slots' := 128) rfl rfl (by decide) (by decide) (wy := []) (fun _ _ _ q => ⟨q.1, q.2.1⟩) all0 (fun _ K => IW.keep K sf0 W172.inv) ?_
      intro v177 T177 h177 lo177 W177 K177 q177
      obtain rfl := q177.2.2
      show Gl _ _ _ _ _ _ _ _ [(.int 1)]
      refine o_ifN W177 (pc' := 272) (hb hy at_269) (XT.i0_eq_f (by decide)) rfl ?_
      refine o_iconst W177 (v := 1) (pc' := 273) (hb hy at_272) rfl rfl ?_
      refine o_goto W177 (pc' := 277) (hb hy at_273) (by decide) rfl ?_
      exact o_retNW W177 (own_EL hw) hlk (t := .boolean) hret (by simp) (z' := (1 : Int32)) (by decide) (hb hy at_277) (by decide) (by decide) rfl
  · refine o_ifN W0 (pc' := 6) (hb hy at_3) (XT.i0_eq_f hq1) rfl ?_
    refine o_iconst W0 (v := 1) (pc' := 7) (hb hy at_6) rfl rfl ?_
    refine o_goto W0 (pc' := 11) (hb hy at_7) (by decide) rfl ?_
    refine o_istore W0 (L' := #[.val (.int p0), .val (.int p1), .val (.int p2), .val (.int p3), .val (.int 1), .unset, .unset, .unset, .unset, .unset, .unset, .unset, .unset, .unset, .unset, .unset, .unset]) (pc' := 13) (hb hy at_11) rfl rfl ?_
    refine o_iloadN W0 (pc' := 14) (hb hy at_13) rfl rfl ?_
    refine o_iconst W0 (v := 2) (pc' := 15) (hb hy at_14) rfl rfl ?_
    refine o_iand W0 (v := (p3 &&& (2 : Int32))) (pc' := 16) (hb hy at_15) rfl rfl ?_
    by_cases hq178 : (p3 &&& (2 : Int32)) = (0 : Int32)
    · refine o_ifY W0 (pc' := 23) (hb hy at_16) (XT.i0_eq_t hq178) (by decide) rfl ?_
      refine o_iconst W0 (v := 0) (pc' := 24) (hb hy at_23) rfl rfl ?_
      refine o_istore W0 (L' := #[.val (.int p0), .val (.int p1), .val (.int p2), .val (.int p3), .val (.int 1), .val (.int 0), .unset, .unset, .unset, .unset, .unset, .unset, .unset, .unset, .unset, .unset, .unset]) (pc' := 26) (hb hy at_24) rfl rfl ?_
      refine o_iloadN W0 (pc' := 27) (hb hy at_26) rfl rfl ?_
      refine o_sipush W0 (v := 255) (pc' := 30) (hb hy at_27) (by decide) rfl ?_
      refine o_iand W0 (v := (p0 &&& (255 : Int32))) (pc' := 31) (hb hy at_30) rfl rfl ?_
      refine o_i2c W0 (v := (p0 &&& (255 : Int32))) (pc' := 32) (hb hy at_31) (own_i2c (own_b255 _)) rfl ?_
      refine o_istore W0 (L' := #[.val (.int p0), .val (.int p1), .val (.int p2), .val (.int p3), .val (.int 1), .val (.int 0), .val (.int (p0 &&& (255 : Int32))), .unset, .unset, .unset, .unset, .unset, .unset, .unset, .unset, .unset, .unset]) (pc' := 34) (hb hy at_32) rfl rfl ?_
      refine o_iloadN W0 (pc' := 35) (hb hy at_34) rfl rfl ?_
      refine o_sipush W0 (v := 255) (pc' := 38) (hb hy at_35) (by decide) rfl ?_
      refine o_iand W0 (v := (p1 &&& (255 : Int32))) (pc' := 39) (hb hy at_38) rfl rfl ?_
      refine o_i2c W0 (v := (p1 &&& (255 : Int32))) (pc' := 40) (hb hy at_39) (own_i2c (own_b255 _)) rfl ?_
      refine o_istore W0 (L' := #[.val (.int p0), .val (.int p1), .val (.int p2), .val (.int p3), .val (.int 1), .val (.int 0), .val (.int (p0 &&& (255 : Int32))), .val (.int (p1 &&& (255 : Int32))), .unset, .unset, .unset, .unset, .unset, .unset, .unset, .unset, .unset]) (pc' := 42) (hb hy at_40) rfl rfl ?_
      refine o_iloadN W0 (pc' := 43) (hb hy at_42) rfl rfl ?_
      refine o_sipush W0 (v := 255) (pc' := 46) (hb hy at_43) (by decide) rfl ?_
      refine o_iand W0 (v := (p2 &&& (255 : Int32))) (pc' := 47) (hb hy at_46) rfl rfl ?_
      refine o_i2c W0 (v := (p2 &&& (255 : Int32))) (pc' := 48) (hb hy at_47) (own_i2c (own_b255 _)) rfl ?_
      refine o_istore W0 (L' := #[.val (.int p0), .val (.int p1), .val (.int p2), .val (.int p3), .val (.int 1), .val (.int 0), .val (.int (p0 &&& (255 : Int32))), .val (.int (p1 &&& (255 : Int32))), .val (.int (p2 &&& (255 : Int32))), .unset, .unset, .unset, .unset, .unset, .unset, .unset, .unset]) (pc' := 50) (hb hy at_48) rfl rfl ?_
      refine o_new W0 (w0 hw) (w1 hw) (w2 hw) (fun _ E => IW.ext E W0.inv) (pc' := 53) (hb hy at_50) rfl (cells' := 1) (slots' := 1) rfl rfl (by decide) (by decide) ?_
      intro b179 T179 h179 W179 E179 ge179 gz179 gb179 A179 D179
      have Fb179_out : Fld Z h179 b179 "com/example/colophon/colophon/api/Html" "out" "Ljava/lang/StringBuilder;" .null := D179 (Or.inr (w30 hw)) (ty := (.object "java/lang/StringBuilder")) (by decide)
      refine o_dup W179 (pc' := 54) (hb hy at_53) rfl rfl ?_
      refine o_special W179 (y := (⟨"com/example/colophon/colophon/api/Html", "<init>", "()V"⟩ : MethodName)) rfl (w3 hw) (w4 hw) (w5 hw) (by decide) (a := b179) (argsL := []) (CtrN.back (Wd := 1) W179 (rm3 l Z a0 hw gCS b179 h179 W179.old SgCS NgCS A179 Fb179_out gz179) (w5 hw) (w2 hw) (by decide) (by decide)) (by rw [hml]; rfl) (lenOf pd1 rfl) (S := [(.ref b179)]) rfl (by exact Nat.le_of_eq rfl) (pc' := 57) (hb hy at_54) rfl (cells' := 3) (slots' := 21) rfl rfl (by decide) (by decide) (wy := [b179]) (fun _ _ _ q => ⟨q.1, q.2.1⟩) (allS ⟨gz179, (Or.inr gb179)⟩ all0) (fun _ K => IW.keep K (sfS (Safe.exa W179.al A179 (by decide) (by decide)) sf0) W179.inv) ?_
      intro v180 T180 h180 lo180 W180 K180 q180
      obtain ⟨r1_180, r2_180, r3_180, P180_0, P180_1, P180_2, P180_3, P180_4, P180_5, P180_6, P180_7, P180_8, rfl⟩ := q180.2.2
      show Gl _ _ _ _ _ _ _ _ [(.ref b179)]
      refine o_astore W180 (L' := #[.val (.int p0), .val (.int p1), .val (.int p2), .val (.int p3), .val (.int 1), .val (.int 0), .val (.int (p0 &&& (255 : Int32))), .val (.int (p1 &&& (255 : Int32))), .val (.int (p2 &&& (255 : Int32))), .val (.ref b179), .unset, .unset, .unset, .unset, .unset, .unset, .unset]) (pc' := 59) (hb hy at_57) rfl rfl rfl ?_
      refine o_new W180 (w0 hw) (w1 hw) (w2 hw) (fun _ E => IW.ext E W180.inv) (pc' := 62) (hb hy at_59) rfl (cells' := 4) (slots' := 22) rfl rfl (by decide) (by decide) ?_
      intro b181 T181 h181 W181 E181 ge181 gz181 gb181 A181 D181
      have Fb181_out : Fld Z h181 b181 "com/example/colophon/colophon/api/Html" "out" "Ljava/lang/StringBuilder;" .null := D181 (Or.inr (w30 hw)) (ty := (.object "java/lang/StringBuilder")) (by decide)
      refine o_dup W181 (pc' := 63) (hb hy at_62) rfl rfl ?_
      refine o_special W181 (y := (⟨"com/example/colophon/colophon/api/Html", "<init>", "()V"⟩ : MethodName)) rfl (w3 hw) (w4 hw) (w5 hw) (by decide) (a := b181) (argsL := []) (CtrN.back (Wd := 1) W181 (rm3 l Z a0 hw gCS b181 h181 W181.old SgCS NgCS A181 Fb181_out gz181) (w5 hw) (w2 hw) (by decide) (by decide)) (by rw [hml]; rfl) (lenOf pd1 rfl) (S := [(.ref b181)]) rfl (by exact Nat.le_of_eq rfl) (pc' := 66) (hb hy at_63) rfl (cells' := 6) (slots' := 42) rfl rfl (by decide) (by decide) (wy := [b181]) (fun _ _ _ q => ⟨q.1, q.2.1⟩) (allS ⟨gz181, (Or.inr gb181)⟩ all0) (fun _ K => IW.keep K (sfS (Safe.exa W181.al A181 (by decide) (by decide)) sf0) W181.inv) ?_
      intro v182 T182 h182 lo182 W182 K182 q182
      obtain ⟨r1_182, r2_182, r3_182, P182_0, P182_1, P182_2, P182_3, P182_4, P182_5, P182_6, P182_7, P182_8, rfl⟩ := q182.2.2
      show Gl _ _ _ _ _ _ _ _ [(.ref b181)]
      refine o_astore W182 (L' := #[.val (.int p0), .val (.int p1), .val (.int p2), .val (.int p3), .val (.int 1), .val (.int 0), .val (.int (p0 &&& (255 : Int32))), .val (.int (p1 &&& (255 : Int32))), .val (.int (p2 &&& (255 : Int32))), .val (.ref b179), .val (.ref b181), .unset, .unset, .unset, .unset, .unset, .unset]) (pc' := 68) (hb hy at_66) rfl rfl rfl ?_
      refine o_iload W182 (pc' := 70) (hb hy at_68) rfl rfl ?_
      refine o_ifN W182 (pc' := 73) (hb hy at_70) (XT.i0_eq_f (by decide)) rfl ?_
      refine o_aload W182 (pc' := 75) (hb hy at_73) rfl rfl rfl ?_
      refine o_iload W182 (pc' := 77) (hb hy at_75) rfl rfl ?_
      refine o_static W182 (y := (⟨"java/lang/String", "valueOf", "(C)Ljava/lang/String;"⟩ : MethodName)) (w31 hw) (w32 hw) (w23 hw) (w33 hw) (by decide) (argsL := [(.int (p0 &&& (255 : Int32)))]) (CtrN.back (Wd := 1) W182 (rm17 l Z a0 hw gCS (p0 &&& (255 : Int32)) h182 W182.old SgCS NgCS (own_b255 _)) (w33 hw) (w23 hw) (by decide) (by decide)) (by rw [hml]; rfl) (lenOf pd13 rfl) (S := [(.ref b179)]) rfl (by exact Nat.le_of_eq rfl) (pc' := 80) (hb hy at_77) rfl (cells' := 8) (slots' := 47) rfl rfl (by decide) (by decide) (wy := []) (fun _ _ _ q => ⟨q.1, q.2.1⟩) all0 (fun _ K => IW.keep K sf0 W182.inv) ?_
      intro v183 T183 h183 lo183 W183 K183 q183
      obtain ⟨r1_183, r2_183, r3_183, P183_0, P183_1, P183_2, P183_3, P183_4, P183_5, rfl⟩ := q183.2.2
      show Gl _ _ _ _ _ _ _ _ [(.ref r1_183), (.ref b179)]
      have B184 : Arv Z h183 r2_183 r3_183 .byte (1 : Int32) [(.int (StrChars.lo8 (p0 &&& (255 : Int32))))] (.int 0) := P183_5
      have c185 := (A179.keep K180)
      have c186 := (((P180_2.ext E181).keep K182 (ninS (own_ne c185.lt ge181) nin0)).keep K183 nin0)
      have c187 := (((P180_6.ext E181).keep K182 (ninS (own_ne P180_3.lt ge181) nin0)).keep K183 nin0)
      have c188 := (((P180_4.ext E181).keep K182 (ninS (own_ne P180_3.lt ge181) nin0)).keep K183 nin0)
      have c189 := (((P180_8.ext E181).keep K182 (ninS (own_ne P180_8.lt ge181) nin0)).keep K183 nin0)
      have c190 := (((P180_5.ext E181).keep K182 (ninS (own_ne P180_3.lt ge181) nin0)).keep K183 nin0)
      have c191 := (((P180_7.ext E181).keep K182 (ninS (own_ne P180_3.lt ge181) nin0)).keep K183 nin0)
      have c192 := (((P180_3.ext E181).keep K182).keep K183)
      have c193 := ((P180_8.ext E181).keep K182 (ninS (own_ne P180_8.lt ge181) nin0))
      have c194 := (((c185.ext E181).keep K182).keep K183)
      refine o_virtualW W183 (y := (⟨"com/example/colophon/colophon/api/Html", "close", "(Ljava/lang/String;)Lcom/example/colophon/colophon/api/Html;"⟩ : MethodName)) (z := (⟨"com/example/colophon/colophon/api/Html", "close", "(Ljava/lang/String;)Lcom/example/colophon/colophon/api/Html;"⟩ : MethodName)) (w53 hw) (w54 hw) (o_nf W183 rfl (w56 hw)) (w56 hw) (w55 hw) (by decide) c194 (argsL := [(.ref r1_183)]) (CtrW.back (Wd := 0) W183 (rm37 l Z a0 hw gCS b179 r1_183 r1_180 r2_180 r3_180 r2_183 r3_183 (p0 &&& (255 : Int32)) h183 W183.old c186 c192 SgCS NgCS c187 c188 c189 c190 c191 (Nat.le_trans W179.zs P180_1) (Nat.le_trans W179.zs P180_0) P183_2 P183_3 B184 (own_ne c193.lt P183_1) P183_4) (w57 hw) (w2 hw) (by decide) (by decide) (own_EL hw)) (by rw [hml]; rfl) (lenOf pd21 rfl) (S := []) rfl (by exact Nat.le_of_eq rfl) (pc' := 83) (hb hy at_80) rfl (cells' := 10) (slots' := 59) rfl rfl (by decide) (by decide) (wy := [r2_180, r1_180]) (fun _ _ _ q => ⟨q.1, q.2.1⟩) (allS ⟨(Nat.le_trans W179.zs P180_1), (Or.inr (Nat.le_trans W179.keep.1 P180_1))⟩ (allS ⟨(Nat.le_trans W179.zs P180_0), (Or.inr (Nat.le_trans W179.keep.1 P180_0))⟩ all0))  ?_
      intro v195 T195 h195 V195 lo195 W195 K195 C195 q195
      obtain ⟨P195_0, P195_1, P195_2, P195_3, P195_4, rfl⟩ := q195.2.2
      show Gl _ _ _ _ _ _ _ _ [(.ref b179)]
      refine o_pop W195 (pc' := 84) (hb hy at_83) rfl rfl ?_
      refine o_iload W195 (pc' := 86) (hb hy at_84) rfl rfl ?_
      refine o_ifY W195 (pc' := 100) (hb hy at_86) (XT.i0_eq_t (by decide)) (by decide) rfl ?_
      refine o_aload W195 (pc' := 102) (hb hy at_100) rfl rfl rfl ?_
      refine o_aload W195 (pc' := 104) (hb hy at_102) rfl rfl rfl ?_
      have c196 := (c186.keep K195 (ninS (own_ne A179.lt P180_1) (ninS (own_ne A179.lt P180_0) nin0)))
      have c197 := ((P182_2.keep K183 nin0).keep K195 (ninS (own_ne' P180_8.lt ge181) (ninS (own_ne' P180_3.lt ge181) nin0)))
      have c198 := (P180_3.ext E181)
      have c199 := (P180_8.ext E181)
      have c200 := ((P182_6.keep K183 nin0).keep K195 (ninS (own_ne' c199.lt P182_0) (ninS (own_ne' c198.lt P182_0) nin0)))
      have c201 := ((P182_5.keep K183 nin0).keep K195 (ninS (own_ne' c199.lt P182_0) (ninS (own_ne' c198.lt P182_0) nin0)))
      have c202 := ((P182_4.keep K183 nin0).keep K195 (ninS (own_ne' c199.lt P182_0) (ninS (own_ne' c198.lt P182_0) nin0)))
      have c203 := ((P182_8.keep K183 nin0).keep K195 (ninS (own_ne' c199.lt P182_1) (ninS (own_ne' c198.lt P182_1) nin0)))
      have c204 := ((P182_7.keep K183 nin0).keep K195 (ninS (own_ne' c199.lt P182_0) (ninS (own_ne' c198.lt P182_0) nin0)))
      have c205 := (c192.keep K195)
      have c206 := ((P182_3.keep K183).keep K195)
      have c207 := (c194.keep K195)
      refine o_virtual W195 (y := (⟨"com/example/colophon/colophon/api/Html", "append", "(Lcom/example/colophon/colophon/api/Html;)Lcom/example/colophon/colophon/api/Html;"⟩ : MethodName)) (z := (⟨"com/example/colophon/colophon/api/Html", "append", "(Lcom/example/colophon/colophon/api/Html;)Lcom/example/colophon/colophon/api/Html;"⟩ : MethodName)) (w123 hw) (w124 hw) (o_nf W195 rfl (w126 hw)) (w126 hw) (w125 hw) (by decide) c207 (argsL := [(.ref b181)]) (CtrN.back (Wd := 0) W195 (rm103 l Z a0 hw gCS b179 b181 r1_180 r1_182 r2_180 r3_180 (StrChars.lo8 (60 : Int32)) (StrChars.lo8 (47 : Int32)) (StrChars.lo8 (p0 &&& (255 : Int32))) r2_182 r3_182 h195 W195.old c196 c197 c205 c206 c200 P195_0 P195_1 P195_2 P195_3 SgCS NgCS c201 c202 c203 P195_4 c204 (Nat.le_trans W179.zs P180_1) (Nat.le_trans W179.zs P180_0) (own_ne c198.lt P182_0)) (w127 hw) (w2 hw) (by decide) (by decide)) (by rw [hml]; rfl) (lenOf pd9 rfl) (S := []) rfl (by exact Nat.le_of_eq rfl) (pc' := 107) (hb hy at_104) rfl (cells' := 10) (slots' := 59) rfl rfl (by decide) (by decide) (wy := [r1_180, r2_180]) (fun _ _ _ q => ⟨q.1, q.2.1⟩) (allS ⟨(Nat.le_trans W179.zs P180_0), (Or.inr (Nat.le_trans W179.keep.1 P180_0))⟩ (allS ⟨(Nat.le_trans W179.zs P180_1), (Or.inr (Nat.le_trans W179.keep.1 P180_1))⟩ all0)) (fun _ K => IW.keep K (sfS (Safe.exa W195.al c205 (by decide) (by decide)) (sfS (own_safeB W195.2.2.2.1 (n := 16) (by decide) (own_EL16 hw) P195_2) sf0)) W195.inv) ?_
      intro v208 T208 h208 lo208 W208 K208 q208
      obtain ⟨P208_0, P208_1, P208_2, P208_3, P208_4, rfl⟩ := q208.2.2
      show Gl _ _ _ _ _ _ _ _ [(.ref b179)]
      refine o_astore W208 (L' := #[.val (.int p0), .val (.int p1), .val (.int p2), .val (.int p3), .val (.int 1), .val (.int 0), .val (.int (p0 &&& (255 : Int32))), .val (.int (p1 &&& (255 : Int32))), .val (.int (p2 &&& (255 : Int32))), .val (.ref b179), .val (.ref b181), .val (.ref b179), .unset, .unset, .unset, .unset, .unset]) (pc' := 109) (hb hy at_107) rfl rfl rfl ?_
      refine o_aload W208 (pc' := 111) (hb hy at_109) rfl rfl rfl ?_
      refine o_iload W208 (pc' := 113) (hb hy at_111) rfl rfl ?_
      refine o_static W208 (y := (⟨"java/lang/String", "valueOf", "(C)Ljava/lang/String;"⟩ : MethodName)) (w31 hw) (w32 hw) (w23 hw) (w33 hw) (by decide) (argsL := [(.int (p2 &&& (255 : Int32)))]) (CtrN.back (Wd := 1) W208 (rm17 l Z a0 hw gCS (p2 &&& (255 : Int32)) h208 W208.old SgCS NgCS (own_b255 _)) (w33 hw) (w23 hw) (by decide) (by decide)) (by rw [hml]; rfl) (lenOf pd13 rfl) (S := [(.ref b181)]) rfl (by exact Nat.le_of_eq rfl) (pc' := 116) (hb hy at_113) rfl (cells' := 12) (slots' := 64) rfl rfl (by decide) (by decide) (wy := []) (fun _ _ _ q => ⟨q.1, q.2.1⟩) all0 (fun _ K => IW.keep K sf0 W208.inv) ?_
      intro v209 T209 h209 lo209 W209 K209 q209
      obtain ⟨r1_209, r2_209, r3_209, P209_0, P209_1, P209_2, P209_3, P209_4, P209_5, rfl⟩ := q209.2.2
      show Gl _ _ _ _ _ _ _ _ [(.ref r1_209), (.ref b181)]
      have B210 : Arv Z h209 r2_209 r3_209 .byte (1 : Int32) [(.int (StrChars.lo8 (p2 &&& (255 : Int32))))] (.int 0) := P209_5
      have c211 := ((c197.keep K208 (ninS (own_ne' P180_3.lt ge181) (ninS (own_ne' P180_8.lt ge181) nin0))).keep K209 nin0)
      have c212 := ((c200.keep K208 (ninS (own_ne' c198.lt P182_0) (ninS (own_ne' c199.lt P182_0) nin0))).keep K209 nin0)
      have c213 := ((c202.keep K208 (ninS (own_ne' c198.lt P182_0) (ninS (own_ne' c199.lt P182_0) nin0))).keep K209 nin0)
      have c214 := ((c203.keep K208 (ninS (own_ne' c198.lt P182_1) (ninS (own_ne' c199.lt P182_1) nin0))).keep K209 nin0)
      have c215 := ((c201.keep K208 (ninS (own_ne' c198.lt P182_0) (ninS (own_ne' c199.lt P182_0) nin0))).keep K209 nin0)
      have c216 := ((c204.keep K208 (ninS (own_ne' c198.lt P182_0) (ninS (own_ne' c199.lt P182_0) nin0))).keep K209 nin0)
      have c217 := ((c206.keep K208).keep K209)
      have c218 := (c203.keep K208 (ninS (own_ne' c198.lt P182_1) (ninS (own_ne' c199.lt P182_1) nin0)))
      have c219 := (((((A181.keep K182).keep K183).keep K195).keep K208).keep K209)
      refine o_virtualW W209 (y := (⟨"com/example/colophon/colophon/api/Html", "close", "(Ljava/lang/String;)Lcom/example/colophon/colophon/api/Html;"⟩ : MethodName)) (z := (⟨"com/example/colophon/colophon/api/Html", "close", "(Ljava/lang/String;)Lcom/example/colophon/colophon/api/Html;"⟩ : MethodName)) (w53 hw) (w54 hw) (o_nf W209 rfl (w56 hw)) (w56 hw) (w55 hw) (by decide) c219 (argsL := [(.ref r1_209)]) (CtrW.back (Wd := 0) W209 (rm37 l Z a0 hw gCS b181 r1_209 r1_182 r2_182 r3_182 r2_209 r3_209 (p2 &&& (255 : Int32)) h209 W209.old c211 c217 SgCS NgCS c212 c213 c214 c215 c216 (Nat.le_trans W181.zs P182_1) (Nat.le_trans W181.zs P182_0) P209_2 P209_3 B210 (own_ne c218.lt P209_1) P209_4) (w57 hw) (w2 hw) (by decide) (by decide) (own_EL hw)) (by rw [hml]; rfl) (lenOf pd21 rfl) (S := []) rfl (by exact Nat.le_of_eq rfl) (pc' := 119) (hb hy at_116) rfl (cells' := 14) (slots' := 76) rfl rfl (by decide) (by decide) (wy := [r2_182, r1_182]) (fun _ _ _ q => ⟨q.1, q.2.1⟩) (allS ⟨(Nat.le_trans W181.zs P182_1), (Or.inr (Nat.le_trans W181.keep.1 P182_1))⟩ (allS ⟨(Nat.le_trans W181.zs P182_0), (Or.inr (Nat.le_trans W181.keep.1 P182_0))⟩ all0))  ?_
      intro v220 T220 h220 V220 lo220 W220 K220 C220 q220
      obtain ⟨P220_0, P220_1, P220_2, P220_3, P220_4, rfl⟩ := q220.2.2
      show Gl _ _ _ _ _ _ _ _ [(.ref b181)]
      refine o_pop W220 (pc' := 120) (hb hy at_119) rfl rfl ?_
      refine o_iload W220 (pc' := 122) (hb hy at_120) rfl rfl ?_
      refine o_ifN W220 (pc' := 125) (hb hy at_122) (XT.i0_eq_f (by decide)) rfl ?_
      refine o_iconst W220 (v := 4) (pc' := 126) (hb hy at_125) rfl rfl ?_
      refine o_goto W220 (pc' := 130) (hb hy at_126) (by decide) rfl ?_
      refine o_iload W220 (pc' := 132) (hb hy at_130) rfl rfl ?_
      refine o_ifY W220 (pc' := 139) (hb hy at_132) (XT.i0_eq_t (by decide)) (by decide) rfl ?_
      refine o_iconst W220 (v := 0) (pc' := 140) (hb hy at_139) rfl rfl ?_
      refine o_iadd W220 (v := 4) (pc' := 141) (hb hy at_140) (by decide) rfl ?_
      refine o_istore W220 (L' := #[.val (.int p0), .val (.int p1), .val (.int p2), .val (.int p3), .val (.int 1), .val (.int 0), .val (.int (p0 &&& (255 : Int32))), .val (.int (p1 &&& (255 : Int32))), .val (.int (p2 &&& (255 : Int32))), .val (.ref b179), .val (.ref b181), .val (.ref b179), .val (.int 4), .unset, .unset, .unset, .unset]) (pc' := 143) (hb hy at_141) rfl rfl ?_
      refine o_iload W220 (pc' := 145) (hb hy at_143) rfl rfl ?_
      refine o_newP W220 (aty := .char) (w172 hw) (fun _ E => IW.ext E W220.inv) (by decide) (cap := 4) (by decide) (by decide) (pc' := 147) (hb hy at_145) rfl (cells' := 15) (slots' := 80) rfl rfl (by decide) (by decide) (vs := [(.int 0), (.int 0), (.int 0), (.int 0)]) (dv := (.int 0)) rfl rfl ?_
      intro b221 T221 h221 k221 W221 E221 ge221 gz221 gb221 V221
      refine o_astore W221 (L' := #[.val (.int p0), .val (.int p1), .val (.int p2), .val (.int p3), .val (.int 1), .val (.int 0), .val (.int (p0 &&& (255 : Int32))), .val (.int (p1 &&& (255 : Int32))), .val (.int (p2 &&& (255 : Int32))), .val (.ref b179), .val (.ref b181), .val (.ref b179), .val (.int 4), .val (.ref b221), .unset, .unset, .unset]) (pc' := 149) (hb hy at_147) rfl rfl rfl ?_
      refine o_iconst W221 (v := 0) (pc' := 150) (hb hy at_149) rfl rfl ?_
      refine o_istore W221 (L' := #[.val (.int p0), .val (.int p1), .val (.int p2), .val (.int p3), .val (.int 1), .val (.int 0), .val (.int (p0 &&& (255 : Int32))), .val (.int (p1 &&& (255 : Int32))), .val (.int (p2 &&& (255 : Int32))), .val (.ref b179), .val (.ref b181), .val (.ref b179), .val (.int 4), .val (.ref b221), .val (.int 0), .unset, .unset]) (pc' := 152) (hb hy at_150) rfl rfl ?_
      refine o_iload W221 (pc' := 154) (hb hy at_152) rfl rfl ?_
      refine o_ifN W221 (pc' := 157) (hb hy at_154) (XT.i0_eq_f (by decide)) rfl ?_
      refine o_aload W221 (pc' := 159) (hb hy at_157) rfl rfl rfl ?_
      refine o_iconst W221 (v := 0) (pc' := 160) (hb hy at_159) rfl rfl ?_
      refine o_iload W221 (pc' := 162) (hb hy at_160) rfl rfl ?_
      refine o_static W221 (y := (⟨"com/example/colophon/colophon/api/HtmlAppendPinLaw", "put", "([CIC)V"⟩ : MethodName)) (w173 hw) (w174 hw) (w175 hw) (w176 hw) (by decide) (argsL := [(.ref b221), (.int 0), (.int (p0 &&& (255 : Int32)))]) (CtrN.back (Wd := 0) W221 (rm38 l Z a0 hw b221 (p0 &&& (255 : Int32)) k221 h221 W221.old V221 gz221 (own_b255 _)) (w176 hw) (w175 hw) (by decide) (by decide)) (by rw [hml]; rfl) (lenOf pd22 rfl) (S := []) rfl (by exact Nat.le_of_eq rfl) (pc' := 165) (hb hy at_162) rfl (cells' := 15) (slots' := 80) rfl rfl (by decide) (by decide) (wy := [b221]) (fun _ _ _ q => ⟨q.1, q.2.1⟩) (allS ⟨gz221, (Or.inr gb221)⟩ all0) (fun _ K => IW.keep K (sfS (Safe.arv W221.al V221 (by decide)) sf0) W221.inv) ?_
      intro v222 T222 h222 lo222 W222 K222 q222
      obtain ⟨P222_0, rfl⟩ := q222.2.2
      show Gl _ _ _ _ _ _ _ _ []
      refine o_iconst W222 (v := 4) (pc' := 166) (hb hy at_165) rfl rfl ?_
      refine o_istore W222 (L' := #[.val (.int p0), .val (.int p1), .val (.int p2), .val (.int p3), .val (.int 1), .val (.int 0), .val (.int (p0 &&& (255 : Int32))), .val (.int (p1 &&& (255 : Int32))), .val (.int (p2 &&& (255 : Int32))), .val (.ref b179), .val (.ref b181), .val (.ref b179), .val (.int 4), .val (.ref b221), .val (.int 4), .unset, .unset]) (pc' := 168) (hb hy at_166) rfl rfl ?_
      refine o_iload W222 (pc' := 170) (hb hy at_168) rfl rfl ?_
      refine o_ifY W222 (pc' := 182) (hb hy at_170) (XT.i0_eq_t (by decide)) (by decide) rfl ?_
      refine o_iload W222 (pc' := 184) (hb hy at_182) rfl rfl ?_
      refine o_ifY W222 (pc' := 192) (hb hy at_184) (XT.i0_eq_t (by decide)) (by decide) rfl ?_
      refine o_iconst W222 (v := 4) (pc' := 193) (hb hy at_192) rfl rfl ?_
      refine o_newP W222 (aty := .char) (w172 hw) (fun _ E => IW.ext E W222.inv) (by decide) (cap := 4) (by decide) (by decide) (pc' := 195) (hb hy at_193) rfl (cells' := 16) (slots' := 84) rfl rfl (by decide) (by decide) (vs := [(.int 0), (.int 0), (.int 0), (.int 0)]) (dv := (.int 0)) rfl rfl ?_
      intro b223 T223 h223 k223 W223 E223 ge223 gz223 gb223 V223
      refine o_astore W223 (L' := #[.val (.int p0), .val (.int p1), .val (.int p2), .val (.int p3), .val (.int 1), .val (.int 0), .val (.int (p0 &&& (255 : Int32))), .val (.int (p1 &&& (255 : Int32))), .val (.int (p2 &&& (255 : Int32))), .val (.ref b179), .val (.ref b181), .val (.ref b179), .val (.int 4), .val (.ref b221), .val (.int 4), .val (.ref b223), .unset]) (pc' := 197) (hb hy at_195) rfl rfl rfl ?_
      refine o_iconst W223 (v := 0) (pc' := 198) (hb hy at_197) rfl rfl ?_
      refine o_istore W223 (L' := #[.val (.int p0), .val (.int p1), .val (.int p2), .val (.int p3), .val (.int 1), .val (.int 0), .val (.int (p0 &&& (255 : Int32))), .val (.int (p1 &&& (255 : Int32))), .val (.int (p2 &&& (255 : Int32))), .val (.ref b179), .val (.ref b181), .val (.ref b179), .val (.int 4), .val (.ref b221), .val (.int 4), .val (.ref b223), .val (.int 0)]) (pc' := 200) (hb hy at_198) rfl rfl ?_
      refine o_iload W223 (pc' := 202) (hb hy at_200) rfl rfl ?_
      refine o_ifY W223 (pc' := 216) (hb hy at_202) (XT.i0_eq_t (by decide)) (by decide) rfl ?_
      refine o_aload W223 (pc' := 218) (hb hy at_216) rfl rfl rfl ?_
      refine o_iload W223 (pc' := 220) (hb hy at_218) rfl rfl ?_
      refine o_iload W223 (pc' := 222) (hb hy at_220) rfl rfl ?_
      refine o_static W223 (y := (⟨"com/example/colophon/colophon/api/HtmlAppendPinLaw", "put", "([CIC)V"⟩ : MethodName)) (w173 hw) (w174 hw) (w175 hw) (w176 hw) (by decide) (argsL := [(.ref b223), (.int 0), (.int (p2 &&& (255 : Int32)))]) (CtrN.back (Wd := 0) W223 (rm38 l Z a0 hw b223 (p2 &&& (255 : Int32)) k223 h223 W223.old V223 gz223 (own_b255 _)) (w176 hw) (w175 hw) (by decide) (by decide)) (by rw [hml]; rfl) (lenOf pd22 rfl) (S := []) rfl (by exact Nat.le_of_eq rfl) (pc' := 225) (hb hy at_222) rfl (cells' := 16) (slots' := 84) rfl rfl (by decide) (by decide) (wy := [b223]) (fun _ _ _ q => ⟨q.1, q.2.1⟩) (allS ⟨gz223, (Or.inr gb223)⟩ all0) (fun _ K => IW.keep K (sfS (Safe.arv W223.al V223 (by decide)) sf0) W223.inv) ?_
      intro v224 T224 h224 lo224 W224 K224 q224
      obtain ⟨P224_0, rfl⟩ := q224.2.2
      show Gl _ _ _ _ _ _ _ _ []
      refine o_aload W224 (pc' := 227) (hb hy at_225) rfl rfl rfl ?_
      refine o_aload W224 (pc' := 229) (hb hy at_227) rfl rfl rfl ?_
      refine o_acmpN W224 (pc' := 232) (hb hy at_229) rfl rfl (XT.aa_ne_f rfl) rfl ?_
      refine o_aload W224 (pc' := 234) (hb hy at_232) rfl rfl rfl ?_
      have c225 := (c185.ext E181)
      have c226 := (((c207.keep K208).keep K209).keep K220)
      have c227 := ((c226.ext E221).keep K222)
      have c228 := (((((((c196.keep K208 (ninS (own_ne A179.lt P180_0) (ninS (own_ne A179.lt P180_1) nin0))).keep K209 nin0).keep K220 (ninS (own_ne c225.lt P182_1) (ninS (own_ne c225.lt P182_0) nin0))).ext E221).keep K222 (ninS (own_ne c226.lt ge221) nin0)).ext E223).keep K224 (ninS (own_ne c227.lt ge223) nin0))
      have c229 := (((c205.keep K208).keep K209).keep K220)
      have c230 := ((c229.ext E221).keep K222)
      have c231 := ((((((P208_1.keep K209 nin0).keep K220 (ninS (own_ne c198.lt P182_1) (ninS (own_ne c198.lt P182_0) nin0))).ext E221).keep K222 (ninS (own_ne c229.lt ge221) nin0)).ext E223).keep K224 (ninS (own_ne c230.lt ge223) nin0))
      have c232 := ((((((P208_0.keep K209 nin0).keep K220 (ninS (own_ne c198.lt P182_1) (ninS (own_ne c198.lt P182_0) nin0))).ext E221).keep K222 (ninS (own_ne c229.lt ge221) nin0)).ext E223).keep K224 (ninS (own_ne c230.lt ge223) nin0))
      have c233 := ((((((P208_3.keep K209 nin0).keep K220 (ninS (own_ne c198.lt P182_1) (ninS (own_ne c198.lt P182_0) nin0))).ext E221).keep K222 (ninS (own_ne c229.lt ge221) nin0)).ext E223).keep K224 (ninS (own_ne c230.lt ge223) nin0))
      have c234 := ((P208_2.keep K209 nin0).keep K220 (ninS (own_ne c199.lt P182_1) (ninS (own_ne c199.lt P182_0) nin0)))
      have c235 := ((c234.ext E221).keep K222 (ninS (own_ne c234.lt ge221) nin0))
      have c236 := ((((((P208_2.keep K209 nin0).keep K220 (ninS (own_ne c199.lt P182_1) (ninS (own_ne c199.lt P182_0) nin0))).ext E221).keep K222 (ninS (own_ne c234.lt ge221) nin0)).ext E223).keep K224 (ninS (own_ne c235.lt ge223) nin0))
      have c237 := ((c230.ext E223).keep K224)
      have c238 := ((c227.ext E223).keep K224)
      refine o_virtual W224 (y := (⟨"com/example/colophon/colophon/api/Html", "toString", "()Ljava/lang/String;"⟩ : MethodName)) (z := (⟨"com/example/colophon/colophon/api/Html", "toString", "()Ljava/lang/String;"⟩ : MethodName)) (w177 hw) (w178 hw) (o_nf W224 rfl (w180 hw)) (w180 hw) (w179 hw) (by decide) c238 (argsL := []) (CtrN.back (Wd := 0) W224 (rm61 l Z a0 hw gCS b179 r1_180 r2_180 r3_180 (StrChars.lo8 (60 : Int32)) (StrChars.lo8 (47 : Int32)) (StrChars.lo8 (p0 &&& (255 : Int32))) h224 W224.old c228 c237 c231 c232 SgCS NgCS c233 c236) (w181 hw) (w2 hw) (by decide) (by decide)) (by rw [hml]; rfl) (lenOf pd29 rfl) (S := []) rfl (by exact Nat.le_of_eq rfl) (pc' := 237) (hb hy at_234) rfl (cells' := 18) (slots' := 92) rfl rfl (by decide) (by decide) (wy := []) (fun _ _ _ q => ⟨q.1, q.2.1⟩) all0 (fun _ K => IW.keep K sf0 W224.inv) ?_
      intro v239 T239 h239 lo239 W239 K239 q239
      obtain ⟨r1_239, r2_239, r3_239, P239_0, P239_1, P239_2, P239_3, P239_4, P239_5, rfl⟩ := q239.2.2
      show Gl _ _ _ _ _ _ _ _ [(.ref r1_239)]
      refine o_new W239 (w216 hw) (w40 hw) (w23 hw) (fun _ E => IW.ext E W239.inv) (pc' := 240) (hb hy at_237) rfl (cells' := 19) (slots' := 96) rfl rfl (by decide) (by decide) ?_
      intro b240 T240 h240 W240 E240 ge240 gz240 gb240 A240 D240
      have Fb240_value : Fld Z h240 b240 "java/lang/String" "value" "[B" .null := D240 (Or.inr (w50 hw)) (ty := (.array .byte)) (by decide)
      have Fb240_coder : Fld Z h240 b240 "java/lang/String" "coder" "B" (.int 0) := D240 (Or.inr (w52 hw)) (ty := .byte) (by decide)
      refine o_dup W240 (pc' := 241) (hb hy at_240) rfl rfl ?_
      refine o_aload W240 (pc' := 243) (hb hy at_241) rfl rfl rfl ?_
      have c241 := ((((P222_0.ext E223).keep K224 (ninS (own_ne P222_0.lt ge223) nin0)).keep K239 nin0).ext E240)
      have ok242 : own_ok [(60 : Int32), (47 : Int32), (p0 &&& (255 : Int32)), (62 : Int32)] := ⟨by simp only [List.mem_cons, List.not_mem_nil, or_false, forall_eq_or_imp, forall_eq, false_imp_iff, implies_true]; exact ⟨(by unfold own_b; decide), (by unfold own_b; decide), (own_b255 _), (by unfold own_b; decide)⟩, Nat.le_of_ble_eq_true rfl⟩
      have sf243 := own_safeS (EL := consts_1) W240.al A240 Fb240_value
      refine o_special W240 (y := (⟨"java/lang/String", "<init>", "([C)V"⟩ : MethodName)) rfl (w217 hw) (w218 hw) (w219 hw) (by decide) (a := b240) (argsL := [(.ref b221)]) (StrChars.Road.backV (W := 2) W240.2.2.2.1 (own_hV hw) (kI := 4) (w40 hw) (cs := [(60 : Int32), (47 : Int32), (p0 &&& (255 : Int32)), (62 : Int32)]) (bs := [((60 : Int32)).toInt8.toInt32, ((47 : Int32)).toInt8.toInt32, ((p0 &&& (255 : Int32))).toInt8.toInt32, ((62 : Int32)).toInt8.toInt32]) (n := 4) (n0 := Z.heap.size) gz240 W240.zs A240 Fb240_value Fb240_coder c241 (SgCS.ext W240.ox) NgCS rfl rfl (by decide) (by decide) ok242.1 rfl (by decide) (by decide)) (by rw [hml]; rfl) (lenOf pd31 rfl) (S := [(.ref b240), (.ref r1_239)]) rfl (by exact Nat.le_of_eq rfl) (pc' := 246) (hb hy at_243) rfl (cells' := 20) (slots' := 100) rfl rfl (by decide) (by decide) (wy := [b240]) (fun _ _ _ q => ⟨q.2.1, q.2.2.1⟩) (allS ⟨gz240, (Or.inr gb240)⟩ all0) (fun _ K => IW.keep K (sfS sf243 sf0) W240.inv) ?_
      intro v244 T244 h244 lo244 W244 K244 q244
      obtain ⟨rfl, -, -, X244, Fc244, t244, kb244, gz244, ge244, -, Fv244, A244⟩ := q244
      have B244 : Arv Z h244 t244 kb244 .byte (4 : Int32) [(.int (StrChars.lo8 (60 : Int32))), (.int (StrChars.lo8 (47 : Int32))), (.int (StrChars.lo8 (p0 &&& (255 : Int32)))), (.int (StrChars.lo8 (62 : Int32)))] (.int 0) := A244
      show Gl _ _ _ _ _ _ _ _ [(.ref b240), (.ref r1_239)]
      have c245 := ((P239_4.ext E240).keep K244 (ninS (own_ne P239_2.lt ge240) nin0))
      have c246 := ((P239_3.ext E240).keep K244 (ninS (own_ne P239_2.lt ge240) nin0))
      have c247 := ((P239_5.ext E240).keep K244 (ninS (own_ne P239_5.lt ge240) nin0))
      have c248 := ((P239_2.ext E240).keep K244)
      refine o_virtual W244 (y := (⟨"java/lang/String", "equals", "(Ljava/lang/Object;)Z"⟩ : MethodName)) (z := (⟨"java/lang/String", "equals", "(Ljava/lang/Object;)Z"⟩ : MethodName)) (w233 hw) (w234 hw) (o_nf W244 rfl (w236 hw)) (w236 hw) (w235 hw) (by decide) c248 (argsL := [(.ref b240)]) (CtrN.back (Wd := 0) W244 (rm63 l Z a0 hw gCS r1_239 b240 r2_239 t244 r3_239 (StrChars.lo8 (60 : Int32)) (StrChars.lo8 (47 : Int32)) (StrChars.lo8 (p0 &&& (255 : Int32))) kb244 (p0 &&& (255 : Int32)) h244 W244.old c248 X244 (own_ne P239_2.lt ge240) SgCS NgCS c245 Fc244 c246 Fv244 c247 B244 rfl rfl rfl) (w237 hw) (w23 hw) (by decide) (by decide)) (by rw [hml]; rfl) (lenOf pd33 rfl) (S := []) rfl (by exact Nat.le_of_eq rfl) (pc' := 249) (hb hy at_246) rfl (cells' := 20) (slots' := 100) rfl rfl (by decide) (by decide) (wy := []) (fun _ _ _ q => ⟨q.1, q.2.1⟩) all0 (fun _ K => IW.keep K sf0 W244.inv) ?_
      intro v249 T249 h249 lo249 W249 K249 q249
      obtain rfl := q249.2.2
      show Gl _ _ _ _ _ _ _ _ [(.int 1)]
      refine o_ifN W249 (pc' := 252) (hb hy at_249) (XT.i0_eq_f (by decide)) rfl ?_
      refine o_aload W249 (pc' := 254) (hb hy at_252) rfl rfl rfl ?_
      have c250 := (c219.keep K220)
      have c251 := ((c250.ext E221).keep K222)
      have c252 := (((c251.ext E223).keep K224).keep K239)
      have c253 := (((((((((c211.keep K220 (ninS (own_ne A181.lt P182_1) (ninS (own_ne A181.lt P182_0) nin0))).ext E221).keep K222 (ninS (own_ne c250.lt ge221) nin0)).ext E223).keep K224 (ninS (own_ne c251.lt ge223) nin0)).keep K239 nin0).ext E240).keep K244 (ninS (own_ne c252.lt ge240) nin0)).keep K249 nin0)
      have c254 := (c217.keep K220)
      have c255 := ((c254.ext E221).keep K222)
      have c256 := (((c255.ext E223).keep K224).keep K239)
      have c257 := ((((((((P220_1.ext E221).keep K222 (ninS (own_ne c254.lt ge221) nin0)).ext E223).keep K224 (ninS (own_ne c255.lt ge223) nin0)).keep K239 nin0).ext E240).keep K244 (ninS (own_ne c256.lt ge240) nin0)).keep K249 nin0)
      have c258 := ((((((((P220_0.ext E221).keep K222 (ninS (own_ne c254.lt ge221) nin0)).ext E223).keep K224 (ninS (own_ne c255.lt ge223) nin0)).keep K239 nin0).ext E240).keep K244 (ninS (own_ne c256.lt ge240) nin0)).keep K249 nin0)
      have c259 := ((((((((P220_3.ext E221).keep K222 (ninS (own_ne c254.lt ge221) nin0)).ext E223).keep K224 (ninS (own_ne c255.lt ge223) nin0)).keep K239 nin0).ext E240).keep K244 (ninS (own_ne c256.lt ge240) nin0)).keep K249 nin0)
      have c260 := ((P220_2.ext E221).keep K222 (ninS (own_ne P220_2.lt ge221) nin0))
      have c261 := (((c260.ext E223).keep K224 (ninS (own_ne c260.lt ge223) nin0)).keep K239 nin0)
      have c262 := ((((((((P220_2.ext E221).keep K222 (ninS (own_ne P220_2.lt ge221) nin0)).ext E223).keep K224 (ninS (own_ne c260.lt ge223) nin0)).keep K239 nin0).ext E240).keep K244 (ninS (own_ne c261.lt ge240) nin0)).keep K249 nin0)
      have c263 := (((c256.ext E240).keep K244).keep K249)
      have c264 := (((c252.ext E240).keep K244).keep K249)
      refine o_virtual W249 (y := (⟨"com/example/colophon/colophon/api/Html", "toString", "()Ljava/lang/String;"⟩ : MethodName)) (z := (⟨"com/example/colophon/colophon/api/Html", "toString", "()Ljava/lang/String;"⟩ : MethodName)) (w177 hw) (w178 hw) (o_nf W249 rfl (w180 hw)) (w180 hw) (w179 hw) (by decide) c264 (argsL := []) (CtrN.back (Wd := 0) W249 (rm61 l Z a0 hw gCS b181 r1_182 r2_182 r3_182 (StrChars.lo8 (60 : Int32)) (StrChars.lo8 (47 : Int32)) (StrChars.lo8 (p2 &&& (255 : Int32))) h249 W249.old c253 c263 c257 c258 SgCS NgCS c259 c262) (w181 hw) (w2 hw) (by decide) (by decide)) (by rw [hml]; rfl) (lenOf pd29 rfl) (S := []) rfl (by exact Nat.le_of_eq rfl) (pc' := 257) (hb hy at_254) rfl (cells' := 22) (slots' := 108) rfl rfl (by decide) (by decide) (wy := []) (fun _ _ _ q => ⟨q.1, q.2.1⟩) all0 (fun _ K => IW.keep K sf0 W249.inv) ?_
      intro v265 T265 h265 lo265 W265 K265 q265
      obtain ⟨r1_265, r2_265, r3_265, P265_0, P265_1, P265_2, P265_3, P265_4, P265_5, rfl⟩ := q265.2.2
      show Gl _ _ _ _ _ _ _ _ [(.ref r1_265)]
      refine o_new W265 (w216 hw) (w40 hw) (w23 hw) (fun _ E => IW.ext E W265.inv) (pc' := 260) (hb hy at_257) rfl (cells' := 23) (slots' := 112) rfl rfl (by decide) (by decide) ?_
      intro b266 T266 h266 W266 E266 ge266 gz266 gb266 A266 D266
      have Fb266_value : Fld Z h266 b266 "java/lang/String" "value" "[B" .null := D266 (Or.inr (w50 hw)) (ty := (.array .byte)) (by decide)
      have Fb266_coder : Fld Z h266 b266 "java/lang/String" "coder" "B" (.int 0) := D266 (Or.inr (w52 hw)) (ty := .byte) (by decide)
      refine o_dup W266 (pc' := 261) (hb hy at_260) rfl rfl ?_
      refine o_aload W266 (pc' := 263) (hb hy at_261) rfl rfl rfl ?_
      have c267 := (P224_0.keep K239 nin0)
      have c268 := ((((((P224_0.keep K239 nin0).ext E240).keep K244 (ninS (own_ne c267.lt ge240) nin0)).keep K249 nin0).keep K265 nin0).ext E266)
      have ok269 : own_ok [(60 : Int32), (47 : Int32), (p2 &&& (255 : Int32)), (62 : Int32)] := ⟨by simp only [List.mem_cons, List.not_mem_nil, or_false, forall_eq_or_imp, forall_eq, false_imp_iff, implies_true]; exact ⟨(by unfold own_b; decide), (by unfold own_b; decide), (own_b255 _), (by unfold own_b; decide)⟩, Nat.le_of_ble_eq_true rfl⟩
      have sf270 := own_safeS (EL := consts_1) W266.al A266 Fb266_value
      refine o_special W266 (y := (⟨"java/lang/String", "<init>", "([C)V"⟩ : MethodName)) rfl (w217 hw) (w218 hw) (w219 hw) (by decide) (a := b266) (argsL := [(.ref b223)]) (StrChars.Road.backV (W := 2) W266.2.2.2.1 (own_hV hw) (kI := 4) (w40 hw) (cs := [(60 : Int32), (47 : Int32), (p2 &&& (255 : Int32)), (62 : Int32)]) (bs := [((60 : Int32)).toInt8.toInt32, ((47 : Int32)).toInt8.toInt32, ((p2 &&& (255 : Int32))).toInt8.toInt32, ((62 : Int32)).toInt8.toInt32]) (n := 4) (n0 := Z.heap.size) gz266 W266.zs A266 Fb266_value Fb266_coder c268 (SgCS.ext W266.ox) NgCS rfl rfl (by decide) (by decide) ok269.1 rfl (by decide) (by decide)) (by rw [hml]; rfl) (lenOf pd31 rfl) (S := [(.ref b266), (.ref r1_265)]) rfl (by exact Nat.le_of_eq rfl) (pc' := 266) (hb hy at_263) rfl (cells' := 24) (slots' := 116) rfl rfl (by decide) (by decide) (wy := [b266]) (fun _ _ _ q => ⟨q.2.1, q.2.2.1⟩) (allS ⟨gz266, (Or.inr gb266)⟩ all0) (fun _ K => IW.keep K (sfS sf270 sf0) W266.inv) ?_
      intro v271 T271 h271 lo271 W271 K271 q271
      obtain ⟨rfl, -, -, X271, Fc271, t271, kb271, gz271, ge271, -, Fv271, A271⟩ := q271
      have B271 : Arv Z h271 t271 kb271 .byte (4 : Int32) [(.int (StrChars.lo8 (60 : Int32))), (.int (StrChars.lo8 (47 : Int32))), (.int (StrChars.lo8 (p2 &&& (255 : Int32)))), (.int (StrChars.lo8 (62 : Int32)))] (.int 0) := A271
      show Gl _ _ _ _ _ _ _ _ [(.ref b266), (.ref r1_265)]
      have c272 := ((P265_4.ext E266).keep K271 (ninS (own_ne P265_2.lt ge266) nin0))
      have c273 := ((P265_3.ext E266).keep K271 (ninS (own_ne P265_2.lt ge266) nin0))
      have c274 := ((P265_5.ext E266).keep K271 (ninS (own_ne P265_5.lt ge266) nin0))
      have c275 := ((P265_2.ext E266).keep K271)
      refine o_virtual W271 (y := (⟨"java/lang/String", "equals", "(Ljava/lang/Object;)Z"⟩ : MethodName)) (z := (⟨"java/lang/String", "equals", "(Ljava/lang/Object;)Z"⟩ : MethodName)) (w233 hw) (w234 hw) (o_nf W271 rfl (w236 hw)) (w236 hw) (w235 hw) (by decide) c275 (argsL := [(.ref b266)]) (CtrN.back (Wd := 0) W271 (rm63 l Z a0 hw gCS r1_265 b266 r2_265 t271 r3_265 (StrChars.lo8 (60 : Int32)) (StrChars.lo8 (47 : Int32)) (StrChars.lo8 (p2 &&& (255 : Int32))) kb271 (p2 &&& (255 : Int32)) h271 W271.old c275 X271 (own_ne P265_2.lt ge266) SgCS NgCS c272 Fc271 c273 Fv271 c274 B271 rfl rfl rfl) (w237 hw) (w23 hw) (by decide) (by decide)) (by rw [hml]; rfl) (lenOf pd33 rfl) (S := []) rfl (by exact Nat.le_of_eq rfl) (pc' := 269) (hb hy at_266) rfl (cells' := 24) (slots' := 116) rfl rfl (by decide) (by decide) (wy := []) (fun _ _ _ q => ⟨q.1, q.2.1⟩) all0 (fun _ K => IW.keep K sf0 W271.inv) ?_
      intro v276 T276 h276 lo276 W276 K276 q276
      obtain rfl := q276.2.2
      show Gl _ _ _ _ _ _ _ _ [(.int 1)]
      refine o_ifN W276 (pc' := 272) (hb hy at_269) (XT.i0_eq_f (by decide)) rfl ?_
      refine o_iconst W276 (v := 1) (pc' := 273) (hb hy at_272) rfl rfl ?_
      refine o_goto W276 (pc' := 277) (hb hy at_273) (by decide) rfl ?_
      exact o_retNW W276 (own_EL hw) hlk (t := .boolean) hret (by simp) (z' := (1 : Int32)) (by decide) (hb hy at_277) (by decide) (by decide) rfl
    · refine o_ifN W0 (pc' := 19) (hb hy at_16) (XT.i0_eq_f hq178) rfl ?_
      refine o_iconst W0 (v := 1) (pc' := 20) (hb hy at_19) rfl rfl ?_
      refine o_goto W0 (pc' := 24) (hb hy at_20) (by decide) rfl ?_
      refine o_istore W0 (L' := #[.val (.int p0), .val (.int p1), .val (.int p2), .val (.int p3), .val (.int 1), .val (.int 1), .unset, .unset, .unset, .unset, .unset, .unset, .unset, .unset, .unset, .unset, .unset]) (pc' := 26) (hb hy at_24) rfl rfl ?_
      refine o_iloadN W0 (pc' := 27) (hb hy at_26) rfl rfl ?_
      refine o_sipush W0 (v := 255) (pc' := 30) (hb hy at_27) (by decide) rfl ?_
      refine o_iand W0 (v := (p0 &&& (255 : Int32))) (pc' := 31) (hb hy at_30) rfl rfl ?_
      refine o_i2c W0 (v := (p0 &&& (255 : Int32))) (pc' := 32) (hb hy at_31) (own_i2c (own_b255 _)) rfl ?_
      refine o_istore W0 (L' := #[.val (.int p0), .val (.int p1), .val (.int p2), .val (.int p3), .val (.int 1), .val (.int 1), .val (.int (p0 &&& (255 : Int32))), .unset, .unset, .unset, .unset, .unset, .unset, .unset, .unset, .unset, .unset]) (pc' := 34) (hb hy at_32) rfl rfl ?_
      refine o_iloadN W0 (pc' := 35) (hb hy at_34) rfl rfl ?_
      refine o_sipush W0 (v := 255) (pc' := 38) (hb hy at_35) (by decide) rfl ?_
      refine o_iand W0 (v := (p1 &&& (255 : Int32))) (pc' := 39) (hb hy at_38) rfl rfl ?_
      refine o_i2c W0 (v := (p1 &&& (255 : Int32))) (pc' := 40) (hb hy at_39) (own_i2c (own_b255 _)) rfl ?_
      refine o_istore W0 (L' := #[.val (.int p0), .val (.int p1), .val (.int p2), .val (.int p3), .val (.int 1), .val (.int 1), .val (.int (p0 &&& (255 : Int32))), .val (.int (p1 &&& (255 : Int32))), .unset, .unset, .unset, .unset, .unset, .unset, .unset, .unset, .unset]) (pc' := 42) (hb hy at_40) rfl rfl ?_
      refine o_iloadN W0 (pc' := 43) (hb hy at_42) rfl rfl ?_
      refine o_sipush W0 (v := 255) (pc' := 46) (hb hy at_43) (by decide) rfl ?_
      refine o_iand W0 (v := (p2 &&& (255 : Int32))) (pc' := 47) (hb hy at_46) rfl rfl ?_
      refine o_i2c W0 (v := (p2 &&& (255 : Int32))) (pc' := 48) (hb hy at_47) (own_i2c (own_b255 _)) rfl ?_
      refine o_istore W0 (L' := #[.val (.int p0), .val (.int p1), .val (.int p2), .val (.int p3), .val (.int 1), .val (.int 1), .val (.int (p0 &&& (255 : Int32))), .val (.int (p1 &&& (255 : Int32))), .val (.int (p2 &&& (255 : Int32))), .unset, .unset, .unset, .unset, .unset, .unset, .unset, .unset]) (pc' := 50) (hb hy at_48) rfl rfl ?_
      refine o_new W0 (w0 hw) (w1 hw) (w2 hw) (fun _ E => IW.ext E W0.inv) (pc' := 53) (hb hy at_50) rfl (cells' := 1) (slots' := 1) rfl rfl (by decide) (by decide) ?_
      intro b277 T277 h277 W277 E277 ge277 gz277 gb277 A277 D277
      have Fb277_out : Fld Z h277 b277 "com/example/colophon/colophon/api/Html" "out" "Ljava/lang/StringBuilder;" .null := D277 (Or.inr (w30 hw)) (ty := (.object "java/lang/StringBuilder")) (by decide)
      refine o_dup W277 (pc' := 54) (hb hy at_53) rfl rfl ?_
      refine o_special W277 (y := (⟨"com/example/colophon/colophon/api/Html", "<init>", "()V"⟩ : MethodName)) rfl (w3 hw) (w4 hw) (w5 hw) (by decide) (a := b277) (argsL := []) (CtrN.back (Wd := 1) W277 (rm3 l Z a0 hw gCS b277 h277 W277.old SgCS NgCS A277 Fb277_out gz277) (w5 hw) (w2 hw) (by decide) (by decide)) (by rw [hml]; rfl) (lenOf pd1 rfl) (S := [(.ref b277)]) rfl (by exact Nat.le_of_eq rfl) (pc' := 57) (hb hy at_54) rfl (cells' := 3) (slots' := 21) rfl rfl (by decide) (by decide) (wy := [b277]) (fun _ _ _ q => ⟨q.1, q.2.1⟩) (allS ⟨gz277, (Or.inr gb277)⟩ all0) (fun _ K => IW.keep K (sfS (Safe.exa W277.al A277 (by decide) (by decide)) sf0) W277.inv) ?_
      intro v278 T278 h278 lo278 W278 K278 q278
      obtain ⟨r1_278, r2_278, r3_278, P278_0, P278_1, P278_2, P278_3, P278_4, P278_5, P278_6, P278_7, P278_8, rfl⟩ := q278.2.2
      show Gl _ _ _ _ _ _ _ _ [(.ref b277)]
      refine o_astore W278 (L' := #[.val (.int p0), .val (.int p1), .val (.int p2), .val (.int p3), .val (.int 1), .val (.int 1), .val (.int (p0 &&& (255 : Int32))), .val (.int (p1 &&& (255 : Int32))), .val (.int (p2 &&& (255 : Int32))), .val (.ref b277), .unset, .unset, .unset, .unset, .unset, .unset, .unset]) (pc' := 59) (hb hy at_57) rfl rfl rfl ?_
      refine o_new W278 (w0 hw) (w1 hw) (w2 hw) (fun _ E => IW.ext E W278.inv) (pc' := 62) (hb hy at_59) rfl (cells' := 4) (slots' := 22) rfl rfl (by decide) (by decide) ?_
      intro b279 T279 h279 W279 E279 ge279 gz279 gb279 A279 D279
      have Fb279_out : Fld Z h279 b279 "com/example/colophon/colophon/api/Html" "out" "Ljava/lang/StringBuilder;" .null := D279 (Or.inr (w30 hw)) (ty := (.object "java/lang/StringBuilder")) (by decide)
      refine o_dup W279 (pc' := 63) (hb hy at_62) rfl rfl ?_
      refine o_special W279 (y := (⟨"com/example/colophon/colophon/api/Html", "<init>", "()V"⟩ : MethodName)) rfl (w3 hw) (w4 hw) (w5 hw) (by decide) (a := b279) (argsL := []) (CtrN.back (Wd := 1) W279 (rm3 l Z a0 hw gCS b279 h279 W279.old SgCS NgCS A279 Fb279_out gz279) (w5 hw) (w2 hw) (by decide) (by decide)) (by rw [hml]; rfl) (lenOf pd1 rfl) (S := [(.ref b279)]) rfl (by exact Nat.le_of_eq rfl) (pc' := 66) (hb hy at_63) rfl (cells' := 6) (slots' := 42) rfl rfl (by decide) (by decide) (wy := [b279]) (fun _ _ _ q => ⟨q.1, q.2.1⟩) (allS ⟨gz279, (Or.inr gb279)⟩ all0) (fun _ K => IW.keep K (sfS (Safe.exa W279.al A279 (by decide) (by decide)) sf0) W279.inv) ?_
      intro v280 T280 h280 lo280 W280 K280 q280
      obtain ⟨r1_280, r2_280, r3_280, P280_0, P280_1, P280_2, P280_3, P280_4, P280_5, P280_6, P280_7, P280_8, rfl⟩ := q280.2.2
      show Gl _ _ _ _ _ _ _ _ [(.ref b279)]
      refine o_astore W280 (L' := #[.val (.int p0), .val (.int p1), .val (.int p2), .val (.int p3), .val (.int 1), .val (.int 1), .val (.int (p0 &&& (255 : Int32))), .val (.int (p1 &&& (255 : Int32))), .val (.int (p2 &&& (255 : Int32))), .val (.ref b277), .val (.ref b279), .unset, .unset, .unset, .unset, .unset, .unset]) (pc' := 68) (hb hy at_66) rfl rfl rfl ?_
      refine o_iload W280 (pc' := 70) (hb hy at_68) rfl rfl ?_
      refine o_ifN W280 (pc' := 73) (hb hy at_70) (XT.i0_eq_f (by decide)) rfl ?_
      refine o_aload W280 (pc' := 75) (hb hy at_73) rfl rfl rfl ?_
      refine o_iload W280 (pc' := 77) (hb hy at_75) rfl rfl ?_
      refine o_static W280 (y := (⟨"java/lang/String", "valueOf", "(C)Ljava/lang/String;"⟩ : MethodName)) (w31 hw) (w32 hw) (w23 hw) (w33 hw) (by decide) (argsL := [(.int (p0 &&& (255 : Int32)))]) (CtrN.back (Wd := 1) W280 (rm17 l Z a0 hw gCS (p0 &&& (255 : Int32)) h280 W280.old SgCS NgCS (own_b255 _)) (w33 hw) (w23 hw) (by decide) (by decide)) (by rw [hml]; rfl) (lenOf pd13 rfl) (S := [(.ref b277)]) rfl (by exact Nat.le_of_eq rfl) (pc' := 80) (hb hy at_77) rfl (cells' := 8) (slots' := 47) rfl rfl (by decide) (by decide) (wy := []) (fun _ _ _ q => ⟨q.1, q.2.1⟩) all0 (fun _ K => IW.keep K sf0 W280.inv) ?_
      intro v281 T281 h281 lo281 W281 K281 q281
      obtain ⟨r1_281, r2_281, r3_281, P281_0, P281_1, P281_2, P281_3, P281_4, P281_5, rfl⟩ := q281.2.2
      show Gl _ _ _ _ _ _ _ _ [(.ref r1_281), (.ref b277)]
      have B282 : Arv Z h281 r2_281 r3_281 .byte (1 : Int32) [(.int (StrChars.lo8 (p0 &&& (255 : Int32))))] (.int 0) := P281_5
      have c283 := (A277.keep K278)
      have c284 := (((P278_2.ext E279).keep K280 (ninS (own_ne c283.lt ge279) nin0)).keep K281 nin0)
      have c285 := (((P278_6.ext E279).keep K280 (ninS (own_ne P278_3.lt ge279) nin0)).keep K281 nin0)
      have c286 := (((P278_4.ext E279).keep K280 (ninS (own_ne P278_3.lt ge279) nin0)).keep K281 nin0)
      have c287 := (((P278_8.ext E279).keep K280 (ninS (own_ne P278_8.lt ge279) nin0)).keep K281 nin0)
      have c288 := (((P278_5.ext E279).keep K280 (ninS (own_ne P278_3.lt ge279) nin0)).keep K281 nin0)
      have c289 := (((P278_7.ext E279).keep K280 (ninS (own_ne P278_3.lt ge279) nin0)).keep K281 nin0)
      have c290 := (((P278_3.ext E279).keep K280).keep K281)
      have c291 := ((P278_8.ext E279).keep K280 (ninS (own_ne P278_8.lt ge279) nin0))
      have c292 := (((c283.ext E279).keep K280).keep K281)
      refine o_virtualW W281 (y := (⟨"com/example/colophon/colophon/api/Html", "close", "(Ljava/lang/String;)Lcom/example/colophon/colophon/api/Html;"⟩ : MethodName)) (z := (⟨"com/example/colophon/colophon/api/Html", "close", "(Ljava/lang/String;)Lcom/example/colophon/colophon/api/Html;"⟩ : MethodName)) (w53 hw) (w54 hw) (o_nf W281 rfl (w56 hw)) (w56 hw) (w55 hw) (by decide) c292 (argsL := [(.ref r1_281)]) (CtrW.back (Wd := 0) W281 (rm37 l Z a0 hw gCS b277 r1_281 r1_278 r2_278 r3_278 r2_281 r3_281 (p0 &&& (255 : Int32)) h281 W281.old c284 c290 SgCS NgCS c285 c286 c287 c288 c289 (Nat.le_trans W277.zs P278_1) (Nat.le_trans W277.zs P278_0) P281_2 P281_3 B282 (own_ne c291.lt P281_1) P281_4) (w57 hw) (w2 hw) (by decide) (by decide) (own_EL hw)) (by rw [hml]; rfl) (lenOf pd21 rfl) (S := []) rfl (by exact Nat.le_of_eq rfl) (pc' := 83) (hb hy at_80) rfl (cells' := 10) (slots' := 59) rfl rfl (by decide) (by decide) (wy := [r2_278, r1_278]) (fun _ _ _ q => ⟨q.1, q.2.1⟩) (allS ⟨(Nat.le_trans W277.zs P278_1), (Or.inr (Nat.le_trans W277.keep.1 P278_1))⟩ (allS ⟨(Nat.le_trans W277.zs P278_0), (Or.inr (Nat.le_trans W277.keep.1 P278_0))⟩ all0))  ?_
      intro v293 T293 h293 V293 lo293 W293 K293 C293 q293
      obtain ⟨P293_0, P293_1, P293_2, P293_3, P293_4, rfl⟩ := q293.2.2
      show Gl _ _ _ _ _ _ _ _ [(.ref b277)]
      refine o_pop W293 (pc' := 84) (hb hy at_83) rfl rfl ?_
      refine o_iload W293 (pc' := 86) (hb hy at_84) rfl rfl ?_
      refine o_ifN W293 (pc' := 89) (hb hy at_86) (XT.i0_eq_f (by decide)) rfl ?_
      refine o_aload W293 (pc' := 91) (hb hy at_89) rfl rfl rfl ?_
      refine o_iload W293 (pc' := 93) (hb hy at_91) rfl rfl ?_
      refine o_static W293 (y := (⟨"java/lang/String", "valueOf", "(C)Ljava/lang/String;"⟩ : MethodName)) (w31 hw) (w32 hw) (w23 hw) (w33 hw) (by decide) (argsL := [(.int (p1 &&& (255 : Int32)))]) (CtrN.back (Wd := 1) W293 (rm17 l Z a0 hw gCS (p1 &&& (255 : Int32)) h293 W293.old SgCS NgCS (own_b255 _)) (w33 hw) (w23 hw) (by decide) (by decide)) (by rw [hml]; rfl) (lenOf pd13 rfl) (S := [(.ref b279)]) rfl (by exact Nat.le_of_eq rfl) (pc' := 96) (hb hy at_93) rfl (cells' := 12) (slots' := 64) rfl rfl (by decide) (by decide) (wy := []) (fun _ _ _ q => ⟨q.1, q.2.1⟩) all0 (fun _ K => IW.keep K sf0 W293.inv) ?_
      intro v294 T294 h294 lo294 W294 K294 q294
      obtain ⟨r1_294, r2_294, r3_294, P294_0, P294_1, P294_2, P294_3, P294_4, P294_5, rfl⟩ := q294.2.2
      show Gl _ _ _ _ _ _ _ _ [(.ref r1_294), (.ref b279)]
      have B295 : Arv Z h294 r2_294 r3_294 .byte (1 : Int32) [(.int (StrChars.lo8 (p1 &&& (255 : Int32))))] (.int 0) := P294_5
      have c296 := (((P280_2.keep K281 nin0).keep K293 (ninS (own_ne' P278_8.lt ge279) (ninS (own_ne' P278_3.lt ge279) nin0))).keep K294 nin0)
      have c297 := (P278_3.ext E279)
      have c298 := (P278_8.ext E279)
      have c299 := (((P280_6.keep K281 nin0).keep K293 (ninS (own_ne' c298.lt P280_0) (ninS (own_ne' c297.lt P280_0) nin0))).keep K294 nin0)
      have c300 := (((P280_4.keep K281 nin0).keep K293 (ninS (own_ne' c298.lt P280_0) (ninS (own_ne' c297.lt P280_0) nin0))).keep K294 nin0)
      have c301 := (((P280_8.keep K281 nin0).keep K293 (ninS (own_ne' c298.lt P280_1) (ninS (own_ne' c297.lt P280_1) nin0))).keep K294 nin0)
      have c302 := (((P280_5.keep K281 nin0).keep K293 (ninS (own_ne' c298.lt P280_0) (ninS (own_ne' c297.lt P280_0) nin0))).keep K294 nin0)
      have c303 := (((P280_7.keep K281 nin0).keep K293 (ninS (own_ne' c298.lt P280_0) (ninS (own_ne' c297.lt P280_0) nin0))).keep K294 nin0)
      have c304 := (((P280_3.keep K281).keep K293).keep K294)
      have c305 := ((P280_8.keep K281 nin0).keep K293 (ninS (own_ne' c298.lt P280_1) (ninS (own_ne' c297.lt P280_1) nin0)))
      have c306 := ((((A279.keep K280).keep K281).keep K293).keep K294)
      refine o_virtualW W294 (y := (⟨"com/example/colophon/colophon/api/Html", "close", "(Ljava/lang/String;)Lcom/example/colophon/colophon/api/Html;"⟩ : MethodName)) (z := (⟨"com/example/colophon/colophon/api/Html", "close", "(Ljava/lang/String;)Lcom/example/colophon/colophon/api/Html;"⟩ : MethodName)) (w53 hw) (w54 hw) (o_nf W294 rfl (w56 hw)) (w56 hw) (w55 hw) (by decide) c306 (argsL := [(.ref r1_294)]) (CtrW.back (Wd := 0) W294 (rm37 l Z a0 hw gCS b279 r1_294 r1_280 r2_280 r3_280 r2_294 r3_294 (p1 &&& (255 : Int32)) h294 W294.old c296 c304 SgCS NgCS c299 c300 c301 c302 c303 (Nat.le_trans W279.zs P280_1) (Nat.le_trans W279.zs P280_0) P294_2 P294_3 B295 (own_ne c305.lt P294_1) P294_4) (w57 hw) (w2 hw) (by decide) (by decide) (own_EL hw)) (by rw [hml]; rfl) (lenOf pd21 rfl) (S := []) rfl (by exact Nat.le_of_eq rfl) (pc' := 99) (hb hy at_96) rfl (cells' := 14) (slots' := 76) rfl rfl (by decide) (by decide) (wy := [r2_280, r1_280]) (fun _ _ _ q => ⟨q.1, q.2.1⟩) (allS ⟨(Nat.le_trans W279.zs P280_1), (Or.inr (Nat.le_trans W279.keep.1 P280_1))⟩ (allS ⟨(Nat.le_trans W279.zs P280_0), (Or.inr (Nat.le_trans W279.keep.1 P280_0))⟩ all0))  ?_
      intro v307 T307 h307 V307 lo307 W307 K307 C307 q307
      obtain ⟨P307_0, P307_1, P307_2, P307_3, P307_4, rfl⟩ := q307.2.2
      show Gl _ _ _ _ _ _ _ _ [(.ref b279)]
      refine o_pop W307 (pc' := 100) (hb hy at_99) rfl rfl ?_
      refine o_aload W307 (pc' := 102) (hb hy at_100) rfl rfl rfl ?_
      refine o_aload W307 (pc' := 104) (hb hy at_102) rfl rfl rfl ?_
      have c308 := (c283.ext E279)
      have c309 := (((c284.keep K293 (ninS (own_ne A277.lt P278_1) (ninS (own_ne A277.lt P278_0) nin0))).keep K294 nin0).keep K307 (ninS (own_ne c308.lt P280_1) (ninS (own_ne c308.lt P280_0) nin0)))
      have c310 := (c296.keep K307 (ninS (own_ne A279.lt P280_1) (ninS (own_ne A279.lt P280_0) nin0)))
      have c311 := ((P293_0.keep K294 nin0).keep K307 (ninS (own_ne c297.lt P280_1) (ninS (own_ne c297.lt P280_0) nin0)))
      have c312 := ((P293_1.keep K294 nin0).keep K307 (ninS (own_ne c297.lt P280_1) (ninS (own_ne c297.lt P280_0) nin0)))
      have c313 := ((P293_2.keep K294 nin0).keep K307 (ninS (own_ne c298.lt P280_1) (ninS (own_ne c298.lt P280_0) nin0)))
      have c314 := ((P293_3.keep K294 nin0).keep K307 (ninS (own_ne c297.lt P280_1) (ninS (own_ne c297.lt P280_0) nin0)))
      have c315 := ((P293_4.keep K294 nin0).keep K307 (ninS (own_ne c297.lt P280_1) (ninS (own_ne c297.lt P280_0) nin0)))
      have c316 := (((c290.keep K293).keep K294).keep K307)
      have c317 := (c304.keep K307)
      have c318 := (((c292.keep K293).keep K294).keep K307)
      refine o_virtual W307 (y := (⟨"com/example/colophon/colophon/api/Html", "append", "(Lcom/example/colophon/colophon/api/Html;)Lcom/example/colophon/colophon/api/Html;"⟩ : MethodName)) (z := (⟨"com/example/colophon/colophon/api/Html", "append", "(Lcom/example/colophon/colophon/api/Html;)Lcom/example/colophon/colophon/api/Html;"⟩ : MethodName)) (w123 hw) (w124 hw) (o_nf W307 rfl (w126 hw)) (w126 hw) (w125 hw) (by decide) c318 (argsL := [(.ref b279)]) (CtrN.back (Wd := 0) W307 (rm109 l Z a0 hw gCS b277 b279 r1_278 r1_280 r2_278 r3_278 (StrChars.lo8 (60 : Int32)) (StrChars.lo8 (47 : Int32)) (StrChars.lo8 (p0 &&& (255 : Int32))) r2_280 r3_280 (StrChars.lo8 (p1 &&& (255 : Int32))) h307 W307.old c309 c310 c316 c317 P307_0 c311 c312 c313 c314 SgCS NgCS P307_3 P307_1 P307_2 c315 P307_4 (Nat.le_trans W277.zs P278_1) (Nat.le_trans W277.zs P278_0) (own_ne c297.lt P280_0)) (w127 hw) (w2 hw) (by decide) (by decide)) (by rw [hml]; rfl) (lenOf pd9 rfl) (S := []) rfl (by exact Nat.le_of_eq rfl) (pc' := 107) (hb hy at_104) rfl (cells' := 14) (slots' := 76) rfl rfl (by decide) (by decide) (wy := [r1_278, r2_278]) (fun _ _ _ q => ⟨q.1, q.2.1⟩) (allS ⟨(Nat.le_trans W277.zs P278_0), (Or.inr (Nat.le_trans W277.keep.1 P278_0))⟩ (allS ⟨(Nat.le_trans W277.zs P278_1), (Or.inr (Nat.le_trans W277.keep.1 P278_1))⟩ all0)) (fun _ K => IW.keep K (sfS (Safe.exa W307.al c316 (by decide) (by decide)) (sfS (own_safeB W307.2.2.2.1 (n := 16) (by decide) (own_EL16 hw) c313) sf0)) W307.inv) ?_
      intro v319 T319 h319 lo319 W319 K319 q319
      obtain ⟨P319_0, P319_1, P319_2, P319_3, P319_4, rfl⟩ := q319.2.2
      show Gl _ _ _ _ _ _ _ _ [(.ref b277)]
      refine o_astore W319 (L' := #[.val (.int p0), .val (.int p1), .val (.int p2), .val (.int p3), .val (.int 1), .val (.int 1), .val (.int (p0 &&& (255 : Int32))), .val (.int (p1 &&& (255 : Int32))), .val (.int (p2 &&& (255 : Int32))), .val (.ref b277), .val (.ref b279), .val (.ref b277), .unset, .unset, .unset, .unset, .unset]) (pc' := 109) (hb hy at_107) rfl rfl rfl ?_
      refine o_aload W319 (pc' := 111) (hb hy at_109) rfl rfl rfl ?_
      refine o_iload W319 (pc' := 113) (hb hy at_111) rfl rfl ?_
      refine o_static W319 (y := (⟨"java/lang/String", "valueOf", "(C)Ljava/lang/String;"⟩ : MethodName)) (w31 hw) (w32 hw) (w23 hw) (w33 hw) (by decide) (argsL := [(.int (p2 &&& (255 : Int32)))]) (CtrN.back (Wd := 1) W319 (rm17 l Z a0 hw gCS (p2 &&& (255 : Int32)) h319 W319.old SgCS NgCS (own_b255 _)) (w33 hw) (w23 hw) (by decide) (by decide)) (by rw [hml]; rfl) (lenOf pd13 rfl) (S := [(.ref b279)]) rfl (by exact Nat.le_of_eq rfl) (pc' := 116) (hb hy at_113) rfl (cells' := 16) (slots' := 81) rfl rfl (by decide) (by decide) (wy := []) (fun _ _ _ q => ⟨q.1, q.2.1⟩) all0 (fun _ K => IW.keep K sf0 W319.inv) ?_
      intro v320 T320 h320 lo320 W320 K320 q320
      obtain ⟨r1_320, r2_320, r3_320, P320_0, P320_1, P320_2, P320_3, P320_4, P320_5, rfl⟩ := q320.2.2
      show Gl _ _ _ _ _ _ _ _ [(.ref r1_320), (.ref b279)]
      have B321 : Arv Z h320 r2_320 r3_320 .byte (1 : Int32) [(.int (StrChars.lo8 (p2 &&& (255 : Int32))))] (.int 0) := P320_5
      have c322 := ((c310.keep K319 (ninS (own_ne' P278_3.lt ge279) (ninS (own_ne' P278_8.lt ge279) nin0))).keep K320 nin0)
      have c323 := ((P307_0.keep K319 (ninS (own_ne' c297.lt P280_0) (ninS (own_ne' c298.lt P280_0) nin0))).keep K320 nin0)
      have c324 := ((P307_1.keep K319 (ninS (own_ne' c297.lt P280_0) (ninS (own_ne' c298.lt P280_0) nin0))).keep K320 nin0)
      have c325 := ((P307_2.keep K319 (ninS (own_ne' c297.lt P280_1) (ninS (own_ne' c298.lt P280_1) nin0))).keep K320 nin0)
      have c326 := ((P307_3.keep K319 (ninS (own_ne' c297.lt P280_0) (ninS (own_ne' c298.lt P280_0) nin0))).keep K320 nin0)
      have c327 := ((P307_4.keep K319 (ninS (own_ne' c297.lt P280_0) (ninS (own_ne' c298.lt P280_0) nin0))).keep K320 nin0)
      have c328 := ((c317.keep K319).keep K320)
      have c329 := (P307_2.keep K319 (ninS (own_ne' c297.lt P280_1) (ninS (own_ne' c298.lt P280_1) nin0)))
      have c330 := (((c306.keep K307).keep K319).keep K320)
      refine o_virtualW W320 (y := (⟨"com/example/colophon/colophon/api/Html", "close", "(Ljava/lang/String;)Lcom/example/colophon/colophon/api/Html;"⟩ : MethodName)) (z := (⟨"com/example/colophon/colophon/api/Html", "close", "(Ljava/lang/String;)Lcom/example/colophon/colophon/api/Html;"⟩ : MethodName)) (w53 hw) (w54 hw) (o_nf W320 rfl (w56 hw)) (w56 hw) (w55 hw) (by decide) c330 (argsL := [(.ref r1_320)]) (CtrW.back (Wd := 0) W320 (rm83 l Z a0 hw gCS b279 r1_320 r1_280 r2_280 r3_280 (StrChars.lo8 (60 : Int32)) (StrChars.lo8 (47 : Int32)) (StrChars.lo8 (p1 &&& (255 : Int32))) r2_320 r3_320 (p2 &&& (255 : Int32)) h320 W320.old c322 c328 SgCS NgCS c323 c324 c325 c326 c327 (Nat.le_trans W279.zs P280_1) (Nat.le_trans W279.zs P280_0) P320_2 P320_3 B321 (own_ne c329.lt P320_1) P320_4) (w57 hw) (w2 hw) (by decide) (by decide) (own_EL hw)) (by rw [hml]; rfl) (lenOf pd21 rfl) (S := []) rfl (by exact Nat.le_of_eq rfl) (pc' := 119) (hb hy at_116) rfl (cells' := 18) (slots' := 93) rfl rfl (by decide) (by decide) (wy := [r2_280, r1_280]) (fun _ _ _ q => ⟨q.1, q.2.1⟩) (allS ⟨(Nat.le_trans W279.zs P280_1), (Or.inr (Nat.le_trans W279.keep.1 P280_1))⟩ (allS ⟨(Nat.le_trans W279.zs P280_0), (Or.inr (Nat.le_trans W279.keep.1 P280_0))⟩ all0))  ?_
      intro v331 T331 h331 V331 lo331 W331 K331 C331 q331
      obtain ⟨P331_0, P331_1, P331_2, P331_3, P331_4, rfl⟩ := q331.2.2
      show Gl _ _ _ _ _ _ _ _ [(.ref b279)]
      refine o_pop W331 (pc' := 120) (hb hy at_119) rfl rfl ?_
      refine o_iload W331 (pc' := 122) (hb hy at_120) rfl rfl ?_
      refine o_ifN W331 (pc' := 125) (hb hy at_122) (XT.i0_eq_f (by decide)) rfl ?_
      refine o_iconst W331 (v := 4) (pc' := 126) (hb hy at_125) rfl rfl ?_
      refine o_goto W331 (pc' := 130) (hb hy at_126) (by decide) rfl ?_
      refine o_iload W331 (pc' := 132) (hb hy at_130) rfl rfl ?_
      refine o_ifN W331 (pc' := 135) (hb hy at_132) (XT.i0_eq_f (by decide)) rfl ?_
      refine o_iconst W331 (v := 4) (pc' := 136) (hb hy at_135) rfl rfl ?_
      refine o_goto W331 (pc' := 140) (hb hy at_136) (by decide) rfl ?_
      refine o_iadd W331 (v := 8) (pc' := 141) (hb hy at_140) (by decide) rfl ?_
      refine o_istore W331 (L' := #[.val (.int p0), .val (.int p1), .val (.int p2), .val (.int p3), .val (.int 1), .val (.int 1), .val (.int (p0 &&& (255 : Int32))), .val (.int (p1 &&& (255 : Int32))), .val (.int (p2 &&& (255 : Int32))), .val (.ref b277), .val (.ref b279), .val (.ref b277), .val (.int 8), .unset, .unset, .unset, .unset]) (pc' := 143) (hb hy at_141) rfl rfl ?_
      refine o_iload W331 (pc' := 145) (hb hy at_143) rfl rfl ?_
      refine o_newP W331 (aty := .char) (w172 hw) (fun _ E => IW.ext E W331.inv) (by decide) (cap := 8) (by decide) (by decide) (pc' := 147) (hb hy at_145) rfl (cells' := 19) (slots' := 101) rfl rfl (by decide) (by decide) (vs := [(.int 0), (.int 0), (.int 0), (.int 0), (.int 0), (.int 0), (.int 0), (.int 0)]) (dv := (.int 0)) rfl rfl ?_
      intro b332 T332 h332 k332 W332 E332 ge332 gz332 gb332 V332
      refine o_astore W332 (L' := #[.val (.int p0), .val (.int p1), .val (.int p2), .val (.int p3), .val (.int 1), .val (.int 1), .val (.int (p0 &&& (255 : Int32))), .val (.int (p1 &&& (255 : Int32))), .val (.int (p2 &&& (255 : Int32))), .val (.ref b277), .val (.ref b279), .val (.ref b277), .val (.int 8), .val (.ref b332), .unset, .unset, .unset]) (pc' := 149) (hb hy at_147) rfl rfl rfl ?_
      refine o_iconst W332 (v := 0) (pc' := 150) (hb hy at_149) rfl rfl ?_
      refine o_istore W332 (L' := #[.val (.int p0), .val (.int p1), .val (.int p2), .val (.int p3), .val (.int 1), .val (.int 1), .val (.int (p0 &&& (255 : Int32))), .val (.int (p1 &&& (255 : Int32))), .val (.int (p2 &&& (255 : Int32))), .val (.ref b277), .val (.ref b279), .val (.ref b277), .val (.int 8), .val (.ref b332), .val (.int 0), .unset, .unset]) (pc' := 152) (hb hy at_150) rfl rfl ?_
      refine o_iload W332 (pc' := 154) (hb hy at_152) rfl rfl ?_
      refine o_ifN W332 (pc' := 157) (hb hy at_154) (XT.i0_eq_f (by decide)) rfl ?_
      refine o_aload W332 (pc' := 159) (hb hy at_157) rfl rfl rfl ?_
      refine o_iconst W332 (v := 0) (pc' := 160) (hb hy at_159) rfl rfl ?_
      refine o_iload W332 (pc' := 162) (hb hy at_160) rfl rfl ?_
      refine o_static W332 (y := (⟨"com/example/colophon/colophon/api/HtmlAppendPinLaw", "put", "([CIC)V"⟩ : MethodName)) (w173 hw) (w174 hw) (w175 hw) (w176 hw) (by decide) (argsL := [(.ref b332), (.int 0), (.int (p0 &&& (255 : Int32)))]) (CtrN.back (Wd := 0) W332 (rm84 l Z a0 hw b332 (p0 &&& (255 : Int32)) k332 h332 W332.old V332 gz332 (own_b255 _)) (w176 hw) (w175 hw) (by decide) (by decide)) (by rw [hml]; rfl) (lenOf pd22 rfl) (S := []) rfl (by exact Nat.le_of_eq rfl) (pc' := 165) (hb hy at_162) rfl (cells' := 19) (slots' := 101) rfl rfl (by decide) (by decide) (wy := [b332]) (fun _ _ _ q => ⟨q.1, q.2.1⟩) (allS ⟨gz332, (Or.inr gb332)⟩ all0) (fun _ K => IW.keep K (sfS (Safe.arv W332.al V332 (by decide)) sf0) W332.inv) ?_
      intro v333 T333 h333 lo333 W333 K333 q333
      obtain ⟨P333_0, rfl⟩ := q333.2.2
      show Gl _ _ _ _ _ _ _ _ []
      refine o_iconst W333 (v := 4) (pc' := 166) (hb hy at_165) rfl rfl ?_
      refine o_istore W333 (L' := #[.val (.int p0), .val (.int p1), .val (.int p2), .val (.int p3), .val (.int 1), .val (.int 1), .val (.int (p0 &&& (255 : Int32))), .val (.int (p1 &&& (255 : Int32))), .val (.int (p2 &&& (255 : Int32))), .val (.ref b277), .val (.ref b279), .val (.ref b277), .val (.int 8), .val (.ref b332), .val (.int 4), .unset, .unset]) (pc' := 168) (hb hy at_166) rfl rfl ?_
      refine o_iload W333 (pc' := 170) (hb hy at_168) rfl rfl ?_
      refine o_ifN W333 (pc' := 173) (hb hy at_170) (XT.i0_eq_f (by decide)) rfl ?_
      refine o_aload W333 (pc' := 175) (hb hy at_173) rfl rfl rfl ?_
      refine o_iload W333 (pc' := 177) (hb hy at_175) rfl rfl ?_
      refine o_iload W333 (pc' := 179) (hb hy at_177) rfl rfl ?_
      refine o_static W333 (y := (⟨"com/example/colophon/colophon/api/HtmlAppendPinLaw", "put", "([CIC)V"⟩ : MethodName)) (w173 hw) (w174 hw) (w175 hw) (w176 hw) (by decide) (argsL := [(.ref b332), (.int 4), (.int (p1 &&& (255 : Int32)))]) (CtrN.back (Wd := 0) W333 (rm85 l Z a0 hw b332 (p1 &&& (255 : Int32)) k332 (p0 &&& (255 : Int32)) h333 W333.old P333_0 gz332 (own_b255 _)) (w176 hw) (w175 hw) (by decide) (by decide)) (by rw [hml]; rfl) (lenOf pd22 rfl) (S := []) rfl (by exact Nat.le_of_eq rfl) (pc' := 182) (hb hy at_179) rfl (cells' := 19) (slots' := 101) rfl rfl (by decide) (by decide) (wy := [b332]) (fun _ _ _ q => ⟨q.1, q.2.1⟩) (allS ⟨gz332, (Or.inr gb332)⟩ all0) (fun _ K => IW.keep K (sfS (Safe.arv W333.al P333_0 (by decide)) sf0) W333.inv) ?_
      intro v334 T334 h334 lo334 W334 K334 q334
      obtain ⟨P334_0, rfl⟩ := q334.2.2
      show Gl _ _ _ _ _ _ _ _ []
      refine o_iload W334 (pc' := 184) (hb hy at_182) rfl rfl ?_
      refine o_ifN W334 (pc' := 187) (hb hy at_184) (XT.i0_eq_f (by decide)) rfl ?_
      refine o_bipush W334 (v := 8) (pc' := 189) (hb hy at_187) (by decide) rfl ?_
      refine o_goto W334 (pc' := 193) (hb hy at_189) (by decide) rfl ?_
      refine o_newP W334 (aty := .char) (w172 hw) (fun _ E => IW.ext E W334.inv) (by decide) (cap := 8) (by decide) (by decide) (pc' := 195) (hb hy at_193) rfl (cells' := 20) (slots' := 109) rfl rfl (by decide) (by decide) (vs := [(.int 0), (.int 0), (.int 0), (.int 0), (.int 0), (.int 0), (.int 0), (.int 0)]) (dv := (.int 0)) rfl rfl ?_
      intro b335 T335 h335 k335 W335 E335 ge335 gz335 gb335 V335
      refine o_astore W335 (L' := #[.val (.int p0), .val (.int p1), .val (.int p2), .val (.int p3), .val (.int 1), .val (.int 1), .val (.int (p0 &&& (255 : Int32))), .val (.int (p1 &&& (255 : Int32))), .val (.int (p2 &&& (255 : Int32))), .val (.ref b277), .val (.ref b279), .val (.ref b277), .val (.int 8), .val (.ref b332), .val (.int 4), .val (.ref b335), .unset]) (pc' := 197) (hb hy at_195) rfl rfl rfl ?_
      refine o_iconst W335 (v := 0) (pc' := 198) (hb hy at_197) rfl rfl ?_
      refine o_istore W335 (L' := #[.val (.int p0), .val (.int p1), .val (.int p2), .val (.int p3), .val (.int 1), .val (.int 1), .val (.int (p0 &&& (255 : Int32))), .val (.int (p1 &&& (255 : Int32))), .val (.int (p2 &&& (255 : Int32))), .val (.ref b277), .val (.ref b279), .val (.ref b277), .val (.int 8), .val (.ref b332), .val (.int 4), .val (.ref b335), .val (.int 0)]) (pc' := 200) (hb hy at_198) rfl rfl ?_
      refine o_iload W335 (pc' := 202) (hb hy at_200) rfl rfl ?_
      refine o_ifN W335 (pc' := 205) (hb hy at_202) (XT.i0_eq_f (by decide)) rfl ?_
      refine o_aload W335 (pc' := 207) (hb hy at_205) rfl rfl rfl ?_
      refine o_iconst W335 (v := 0) (pc' := 208) (hb hy at_207) rfl rfl ?_
      refine o_iload W335 (pc' := 210) (hb hy at_208) rfl rfl ?_
      refine o_static W335 (y := (⟨"com/example/colophon/colophon/api/HtmlAppendPinLaw", "put", "([CIC)V"⟩ : MethodName)) (w173 hw) (w174 hw) (w175 hw) (w176 hw) (by decide) (argsL := [(.ref b335), (.int 0), (.int (p1 &&& (255 : Int32)))]) (CtrN.back (Wd := 0) W335 (rm84 l Z a0 hw b335 (p1 &&& (255 : Int32)) k335 h335 W335.old V335 gz335 (own_b255 _)) (w176 hw) (w175 hw) (by decide) (by decide)) (by rw [hml]; rfl) (lenOf pd22 rfl) (S := []) rfl (by exact Nat.le_of_eq rfl) (pc' := 213) (hb hy at_210) rfl (cells' := 20) (slots' := 109) rfl rfl (by decide) (by decide) (wy := [b335]) (fun _ _ _ q => ⟨q.1, q.2.1⟩) (allS ⟨gz335, (Or.inr gb335)⟩ all0) (fun _ K => IW.keep K (sfS (Safe.arv W335.al V335 (by decide)) sf0) W335.inv) ?_
      intro v336 T336 h336 lo336 W336 K336 q336
      obtain ⟨P336_0, rfl⟩ := q336.2.2
      show Gl _ _ _ _ _ _ _ _ []
      refine o_iconst W336 (v := 4) (pc' := 214) (hb hy at_213) rfl rfl ?_
      refine o_istore W336 (L' := #[.val (.int p0), .val (.int p1), .val (.int p2), .val (.int p3), .val (.int 1), .val (.int 1), .val (.int (p0 &&& (255 : Int32))), .val (.int (p1 &&& (255 : Int32))), .val (.int (p2 &&& (255 : Int32))), .val (.ref b277), .val (.ref b279), .val (.ref b277), .val (.int 8), .val (.ref b332), .val (.int 4), .val (.ref b335), .val (.int 4)]) (pc' := 216) (hb hy at_214) rfl rfl ?_
      refine o_aload W336 (pc' := 218) (hb hy at_216) rfl rfl rfl ?_
      refine o_iload W336 (pc' := 220) (hb hy at_218) rfl rfl ?_
      refine o_iload W336 (pc' := 222) (hb hy at_220) rfl rfl ?_
      refine o_static W336 (y := (⟨"com/example/colophon/colophon/api/HtmlAppendPinLaw", "put", "([CIC)V"⟩ : MethodName)) (w173 hw) (w174 hw) (w175 hw) (w176 hw) (by decide) (argsL := [(.ref b335), (.int 4), (.int (p2 &&& (255 : Int32)))]) (CtrN.back (Wd := 0) W336 (rm85 l Z a0 hw b335 (p2 &&& (255 : Int32)) k335 (p1 &&& (255 : Int32)) h336 W336.old P336_0 gz335 (own_b255 _)) (w176 hw) (w175 hw) (by decide) (by decide)) (by rw [hml]; rfl) (lenOf pd22 rfl) (S := []) rfl (by exact Nat.le_of_eq rfl) (pc' := 225) (hb hy at_222) rfl (cells' := 20) (slots' := 109) rfl rfl (by decide) (by decide) (wy := [b335]) (fun _ _ _ q => ⟨q.1, q.2.1⟩) (allS ⟨gz335, (Or.inr gb335)⟩ all0) (fun _ K => IW.keep K (sfS (Safe.arv W336.al P336_0 (by decide)) sf0) W336.inv) ?_
      intro v337 T337 h337 lo337 W337 K337 q337
      obtain ⟨P337_0, rfl⟩ := q337.2.2
      show Gl _ _ _ _ _ _ _ _ []
      refine o_aload W337 (pc' := 227) (hb hy at_225) rfl rfl rfl ?_
      refine o_aload W337 (pc' := 229) (hb hy at_227) rfl rfl rfl ?_
      refine o_acmpN W337 (pc' := 232) (hb hy at_229) rfl rfl (XT.aa_ne_f rfl) rfl ?_
      refine o_aload W337 (pc' := 234) (hb hy at_232) rfl rfl rfl ?_
      have c338 := (((c318.keep K319).keep K320).keep K331)
      have c339 := (((c338.ext E332).keep K333).keep K334)
      have c340 := (((((((((c309.keep K319 (ninS (own_ne A277.lt P278_0) (ninS (own_ne A277.lt P278_1) nin0))).keep K320 nin0).keep K331 (ninS (own_ne c308.lt P280_1) (ninS (own_ne c308.lt P280_0) nin0))).ext E332).keep K333 (ninS (own_ne c338.lt ge332) nin0)).keep K334 (ninS (own_ne c338.lt ge332) nin0)).ext E335).keep K336 (ninS (own_ne c339.lt ge335) nin0)).keep K337 (ninS (own_ne c339.lt ge335) nin0))
      have c341 := (((c316.keep K319).keep K320).keep K331)
      have c342 := (((c341.ext E332).keep K333).keep K334)
      have c343 := ((((((((P319_1.keep K320 nin0).keep K331 (ninS (own_ne c297.lt P280_1) (ninS (own_ne c297.lt P280_0) nin0))).ext E332).keep K333 (ninS (own_ne c341.lt ge332) nin0)).keep K334 (ninS (own_ne c341.lt ge332) nin0)).ext E335).keep K336 (ninS (own_ne c342.lt ge335) nin0)).keep K337 (ninS (own_ne c342.lt ge335) nin0))
      have c344 := ((((((((P319_0.keep K320 nin0).keep K331 (ninS (own_ne c297.lt P280_1) (ninS (own_ne c297.lt P280_0) nin0))).ext E332).keep K333 (ninS (own_ne c341.lt ge332) nin0)).keep K334 (ninS (own_ne c341.lt ge332) nin0)).ext E335).keep K336 (ninS (own_ne c342.lt ge335) nin0)).keep K337 (ninS (own_ne c342.lt ge335) nin0))
      have c345 := ((((((((P319_3.keep K320 nin0).keep K331 (ninS (own_ne c297.lt P280_1) (ninS (own_ne c297.lt P280_0) nin0))).ext E332).keep K333 (ninS (own_ne c341.lt ge332) nin0)).keep K334 (ninS (own_ne c341.lt ge332) nin0)).ext E335).keep K336 (ninS (own_ne c342.lt ge335) nin0)).keep K337 (ninS (own_ne c342.lt ge335) nin0))
      have c346 := ((P319_2.keep K320 nin0).keep K331 (ninS (own_ne c298.lt P280_1) (ninS (own_ne c298.lt P280_0) nin0)))
      have c347 := (((c346.ext E332).keep K333 (ninS (own_ne c346.lt ge332) nin0)).keep K334 (ninS (own_ne c346.lt ge332) nin0))
      have c348 := ((((((((P319_2.keep K320 nin0).keep K331 (ninS (own_ne c298.lt P280_1) (ninS (own_ne c298.lt P280_0) nin0))).ext E332).keep K333 (ninS (own_ne c346.lt ge332) nin0)).keep K334 (ninS (own_ne c346.lt ge332) nin0)).ext E335).keep K336 (ninS (own_ne c347.lt ge335) nin0)).keep K337 (ninS (own_ne c347.lt ge335) nin0))
      have c349 := (((c342.ext E335).keep K336).keep K337)
      have c350 := (((c339.ext E335).keep K336).keep K337)
      refine o_virtual W337 (y := (⟨"com/example/colophon/colophon/api/Html", "toString", "()Ljava/lang/String;"⟩ : MethodName)) (z := (⟨"com/example/colophon/colophon/api/Html", "toString", "()Ljava/lang/String;"⟩ : MethodName)) (w177 hw) (w178 hw) (o_nf W337 rfl (w180 hw)) (w180 hw) (w179 hw) (by decide) c350 (argsL := []) (CtrN.back (Wd := 0) W337 (rm95 l Z a0 hw gCS b277 r1_278 r2_278 r3_278 (StrChars.lo8 (60 : Int32)) (StrChars.lo8 (47 : Int32)) (StrChars.lo8 (p0 &&& (255 : Int32))) (StrChars.lo8 (p1 &&& (255 : Int32))) h337 W337.old c340 c349 c343 c344 SgCS NgCS c345 c348) (w181 hw) (w2 hw) (by decide) (by decide)) (by rw [hml]; rfl) (lenOf pd29 rfl) (S := []) rfl (by exact Nat.le_of_eq rfl) (pc' := 237) (hb hy at_234) rfl (cells' := 22) (slots' := 121) rfl rfl (by decide) (by decide) (wy := []) (fun _ _ _ q => ⟨q.1, q.2.1⟩) all0 (fun _ K => IW.keep K sf0 W337.inv) ?_
      intro v351 T351 h351 lo351 W351 K351 q351
      obtain ⟨r1_351, r2_351, r3_351, P351_0, P351_1, P351_2, P351_3, P351_4, P351_5, rfl⟩ := q351.2.2
      show Gl _ _ _ _ _ _ _ _ [(.ref r1_351)]
      refine o_new W351 (w216 hw) (w40 hw) (w23 hw) (fun _ E => IW.ext E W351.inv) (pc' := 240) (hb hy at_237) rfl (cells' := 23) (slots' := 125) rfl rfl (by decide) (by decide) ?_
      intro b352 T352 h352 W352 E352 ge352 gz352 gb352 A352 D352
      have Fb352_value : Fld Z h352 b352 "java/lang/String" "value" "[B" .null := D352 (Or.inr (w50 hw)) (ty := (.array .byte)) (by decide)
      have Fb352_coder : Fld Z h352 b352 "java/lang/String" "coder" "B" (.int 0) := D352 (Or.inr (w52 hw)) (ty := .byte) (by decide)
      refine o_dup W352 (pc' := 241) (hb hy at_240) rfl rfl ?_
      refine o_aload W352 (pc' := 243) (hb hy at_241) rfl rfl rfl ?_
      have c353 := (((((P334_0.ext E335).keep K336 (ninS (own_ne P334_0.lt ge335) nin0)).keep K337 (ninS (own_ne P334_0.lt ge335) nin0)).keep K351 nin0).ext E352)
      have ok354 : own_ok [(60 : Int32), (47 : Int32), (p0 &&& (255 : Int32)), (62 : Int32), (60 : Int32), (47 : Int32), (p1 &&& (255 : Int32)), (62 : Int32)] := ⟨by simp only [List.mem_cons, List.not_mem_nil, or_false, forall_eq_or_imp, forall_eq, false_imp_iff, implies_true]; exact ⟨(by unfold own_b; decide), (by unfold own_b; decide), (own_b255 _), (by unfold own_b; decide), (by unfold own_b; decide), (by unfold own_b; decide), (own_b255 _), (by unfold own_b; decide)⟩, Nat.le_of_ble_eq_true rfl⟩
      have sf355 := own_safeS (EL := consts_1) W352.al A352 Fb352_value
      refine o_special W352 (y := (⟨"java/lang/String", "<init>", "([C)V"⟩ : MethodName)) rfl (w217 hw) (w218 hw) (w219 hw) (by decide) (a := b352) (argsL := [(.ref b332)]) (StrChars.Road.backV (W := 2) W352.2.2.2.1 (own_hV hw) (kI := 4) (w40 hw) (cs := [(60 : Int32), (47 : Int32), (p0 &&& (255 : Int32)), (62 : Int32), (60 : Int32), (47 : Int32), (p1 &&& (255 : Int32)), (62 : Int32)]) (bs := [((60 : Int32)).toInt8.toInt32, ((47 : Int32)).toInt8.toInt32, ((p0 &&& (255 : Int32))).toInt8.toInt32, ((62 : Int32)).toInt8.toInt32, ((60 : Int32)).toInt8.toInt32, ((47 : Int32)).toInt8.toInt32, ((p1 &&& (255 : Int32))).toInt8.toInt32, ((62 : Int32)).toInt8.toInt32]) (n := 8) (n0 := Z.heap.size) gz352 W352.zs A352 Fb352_value Fb352_coder c353 (SgCS.ext W352.ox) NgCS rfl rfl (by decide) (by decide) ok354.1 rfl (by decide) (by decide)) (by rw [hml]; rfl) (lenOf pd31 rfl) (S := [(.ref b352), (.ref r1_351)]) rfl (by exact Nat.le_of_eq rfl) (pc' := 246) (hb hy at_243) rfl (cells' := 24) (slots' := 133) rfl rfl (by decide) (by decide) (wy := [b352]) (fun _ _ _ q => ⟨q.2.1, q.2.2.1⟩) (allS ⟨gz352, (Or.inr gb352)⟩ all0) (fun _ K => IW.keep K (sfS sf355 sf0) W352.inv) ?_
      intro v356 T356 h356 lo356 W356 K356 q356
      obtain ⟨rfl, -, -, X356, Fc356, t356, kb356, gz356, ge356, -, Fv356, A356⟩ := q356
      have B356 : Arv Z h356 t356 kb356 .byte (8 : Int32) [(.int (StrChars.lo8 (60 : Int32))), (.int (StrChars.lo8 (47 : Int32))), (.int (StrChars.lo8 (p0 &&& (255 : Int32)))), (.int (StrChars.lo8 (62 : Int32))), (.int (StrChars.lo8 (60 : Int32))), (.int (StrChars.lo8 (47 : Int32))), (.int (StrChars.lo8 (p1 &&& (255 : Int32)))), (.int (StrChars.lo8 (62 : Int32)))] (.int 0) := A356
      show Gl _ _ _ _ _ _ _ _ [(.ref b352), (.ref r1_351)]
      have c357 := ((P351_4.ext E352).keep K356 (ninS (own_ne P351_2.lt ge352) nin0))
      have c358 := ((P351_3.ext E352).keep K356 (ninS (own_ne P351_2.lt ge352) nin0))
      have c359 := ((P351_5.ext E352).keep K356 (ninS (own_ne P351_5.lt ge352) nin0))
      have c360 := ((P351_2.ext E352).keep K356)
      refine o_virtual W356 (y := (⟨"java/lang/String", "equals", "(Ljava/lang/Object;)Z"⟩ : MethodName)) (z := (⟨"java/lang/String", "equals", "(Ljava/lang/Object;)Z"⟩ : MethodName)) (w233 hw) (w234 hw) (o_nf W356 rfl (w236 hw)) (w236 hw) (w235 hw) (by decide) c360 (argsL := [(.ref b352)]) (CtrN.back (Wd := 0) W356 (rm97 l Z a0 hw gCS r1_351 b352 r2_351 t356 r3_351 (StrChars.lo8 (60 : Int32)) (StrChars.lo8 (47 : Int32)) (StrChars.lo8 (p0 &&& (255 : Int32))) (StrChars.lo8 (p1 &&& (255 : Int32))) kb356 (p0 &&& (255 : Int32)) (p1 &&& (255 : Int32)) h356 W356.old c360 X356 (own_ne P351_2.lt ge352) SgCS NgCS c357 Fc356 c358 Fv356 c359 B356 rfl rfl rfl rfl) (w237 hw) (w23 hw) (by decide) (by decide)) (by rw [hml]; rfl) (lenOf pd33 rfl) (S := []) rfl (by exact Nat.le_of_eq rfl) (pc' := 249) (hb hy at_246) rfl (cells' := 24) (slots' := 133) rfl rfl (by decide) (by decide) (wy := []) (fun _ _ _ q => ⟨q.1, q.2.1⟩) all0 (fun _ K => IW.keep K sf0 W356.inv) ?_
      intro v361 T361 h361 lo361 W361 K361 q361
      obtain rfl := q361.2.2
      show Gl _ _ _ _ _ _ _ _ [(.int 1)]
      refine o_ifN W361 (pc' := 252) (hb hy at_249) (XT.i0_eq_f (by decide)) rfl ?_
      refine o_aload W361 (pc' := 254) (hb hy at_252) rfl rfl rfl ?_
      have c362 := (c330.keep K331)
      have c363 := (((c362.ext E332).keep K333).keep K334)
      have c364 := ((((c363.ext E335).keep K336).keep K337).keep K351)
      have c365 := (((((((((((c322.keep K331 (ninS (own_ne A279.lt P280_1) (ninS (own_ne A279.lt P280_0) nin0))).ext E332).keep K333 (ninS (own_ne c362.lt ge332) nin0)).keep K334 (ninS (own_ne c362.lt ge332) nin0)).ext E335).keep K336 (ninS (own_ne c363.lt ge335) nin0)).keep K337 (ninS (own_ne c363.lt ge335) nin0)).keep K351 nin0).ext E352).keep K356 (ninS (own_ne c364.lt ge352) nin0)).keep K361 nin0)
      have c366 := (c328.keep K331)
      have c367 := (((c366.ext E332).keep K333).keep K334)
      have c368 := ((((c367.ext E335).keep K336).keep K337).keep K351)
      have c369 := ((((((((((P331_1.ext E332).keep K333 (ninS (own_ne c366.lt ge332) nin0)).keep K334 (ninS (own_ne c366.lt ge332) nin0)).ext E335).keep K336 (ninS (own_ne c367.lt ge335) nin0)).keep K337 (ninS (own_ne c367.lt ge335) nin0)).keep K351 nin0).ext E352).keep K356 (ninS (own_ne c368.lt ge352) nin0)).keep K361 nin0)
      have c370 := ((((((((((P331_0.ext E332).keep K333 (ninS (own_ne c366.lt ge332) nin0)).keep K334 (ninS (own_ne c366.lt ge332) nin0)).ext E335).keep K336 (ninS (own_ne c367.lt ge335) nin0)).keep K337 (ninS (own_ne c367.lt ge335) nin0)).keep K351 nin0).ext E352).keep K356 (ninS (own_ne c368.lt ge352) nin0)).keep K361 nin0)
      have c371 := ((((((((((P331_3.ext E332).keep K333 (ninS (own_ne c366.lt ge332) nin0)).keep K334 (ninS (own_ne c366.lt ge332) nin0)).ext E335).keep K336 (ninS (own_ne c367.lt ge335) nin0)).keep K337 (ninS (own_ne c367.lt ge335) nin0)).keep K351 nin0).ext E352).keep K356 (ninS (own_ne c368.lt ge352) nin0)).keep K361 nin0)
      have c372 := (((P331_2.ext E332).keep K333 (ninS (own_ne P331_2.lt ge332) nin0)).keep K334 (ninS (own_ne P331_2.lt ge332) nin0))
      have c373 := ((((c372.ext E335).keep K336 (ninS (own_ne c372.lt ge335) nin0)).keep K337 (ninS (own_ne c372.lt ge335) nin0)).keep K351 nin0)
      have c374 := ((((((((((P331_2.ext E332).keep K333 (ninS (own_ne P331_2.lt ge332) nin0)).keep K334 (ninS (own_ne P331_2.lt ge332) nin0)).ext E335).keep K336 (ninS (own_ne c372.lt ge335) nin0)).keep K337 (ninS (own_ne c372.lt ge335) nin0)).keep K351 nin0).ext E352).keep K356 (ninS (own_ne c373.lt ge352) nin0)).keep K361 nin0)
      have c375 := (((c368.ext E352).keep K356).keep K361)
      have c376 := (((c364.ext E352).keep K356).keep K361)
      refine o_virtual W361 (y := (⟨"com/example/colophon/colophon/api/Html", "toString", "()Ljava/lang/String;"⟩ : MethodName)) (z := (⟨"com/example/colophon/colophon/api/Html", "toString", "()Ljava/lang/String;"⟩ : MethodName)) (w177 hw) (w178 hw) (o_nf W361 rfl (w180 hw)) (w180 hw) (w179 hw) (by decide) c376 (argsL := []) (CtrN.back (Wd := 0) W361 (rm95 l Z a0 hw gCS b279 r1_280 r2_280 r3_280 (StrChars.lo8 (60 : Int32)) (StrChars.lo8 (47 : Int32)) (StrChars.lo8 (p1 &&& (255 : Int32))) (StrChars.lo8 (p2 &&& (255 : Int32))) h361 W361.old c365 c375 c369 c370 SgCS NgCS c371 c374) (w181 hw) (w2 hw) (by decide) (by decide)) (by rw [hml]; rfl) (lenOf pd29 rfl) (S := []) rfl (by exact Nat.le_of_eq rfl) (pc' := 257) (hb hy at_254) rfl (cells' := 26) (slots' := 145) rfl rfl (by decide) (by decide) (wy := []) (fun _ _ _ q => ⟨q.1, q.2.1⟩) all0 (fun _ K => IW.keep K sf0 W361.inv) ?_
      intro v377 T377 h377 lo377 W377 K377 q377
      obtain ⟨r1_377, r2_377, r3_377, P377_0, P377_1, P377_2, P377_3, P377_4, P377_5, rfl⟩ := q377.2.2
      show Gl _ _ _ _ _ _ _ _ [(.ref r1_377)]
      refine o_new W377 (w216 hw) (w40 hw) (w23 hw) (fun _ E => IW.ext E W377.inv) (pc' := 260) (hb hy at_257) rfl (cells' := 27) (slots' := 149) rfl rfl (by decide) (by decide) ?_
      intro b378 T378 h378 W378 E378 ge378 gz378 gb378 A378 D378
      have Fb378_value : Fld Z h378 b378 "java/lang/String" "value" "[B" .null := D378 (Or.inr (w50 hw)) (ty := (.array .byte)) (by decide)
      have Fb378_coder : Fld Z h378 b378 "java/lang/String" "coder" "B" (.int 0) := D378 (Or.inr (w52 hw)) (ty := .byte) (by decide)
      refine o_dup W378 (pc' := 261) (hb hy at_260) rfl rfl ?_
      refine o_aload W378 (pc' := 263) (hb hy at_261) rfl rfl rfl ?_
      have c379 := (P337_0.keep K351 nin0)
      have c380 := ((((((P337_0.keep K351 nin0).ext E352).keep K356 (ninS (own_ne c379.lt ge352) nin0)).keep K361 nin0).keep K377 nin0).ext E378)
      have ok381 : own_ok [(60 : Int32), (47 : Int32), (p1 &&& (255 : Int32)), (62 : Int32), (60 : Int32), (47 : Int32), (p2 &&& (255 : Int32)), (62 : Int32)] := ⟨by simp only [List.mem_cons, List.not_mem_nil, or_false, forall_eq_or_imp, forall_eq, false_imp_iff, implies_true]; exact ⟨(by unfold own_b; decide), (by unfold own_b; decide), (own_b255 _), (by unfold own_b; decide), (by unfold own_b; decide), (by unfold own_b; decide), (own_b255 _), (by unfold own_b; decide)⟩, Nat.le_of_ble_eq_true rfl⟩
      have sf382 := own_safeS (EL := consts_1) W378.al A378 Fb378_value
      refine o_special W378 (y := (⟨"java/lang/String", "<init>", "([C)V"⟩ : MethodName)) rfl (w217 hw) (w218 hw) (w219 hw) (by decide) (a := b378) (argsL := [(.ref b335)]) (StrChars.Road.backV (W := 2) W378.2.2.2.1 (own_hV hw) (kI := 4) (w40 hw) (cs := [(60 : Int32), (47 : Int32), (p1 &&& (255 : Int32)), (62 : Int32), (60 : Int32), (47 : Int32), (p2 &&& (255 : Int32)), (62 : Int32)]) (bs := [((60 : Int32)).toInt8.toInt32, ((47 : Int32)).toInt8.toInt32, ((p1 &&& (255 : Int32))).toInt8.toInt32, ((62 : Int32)).toInt8.toInt32, ((60 : Int32)).toInt8.toInt32, ((47 : Int32)).toInt8.toInt32, ((p2 &&& (255 : Int32))).toInt8.toInt32, ((62 : Int32)).toInt8.toInt32]) (n := 8) (n0 := Z.heap.size) gz378 W378.zs A378 Fb378_value Fb378_coder c380 (SgCS.ext W378.ox) NgCS rfl rfl (by decide) (by decide) ok381.1 rfl (by decide) (by decide)) (by rw [hml]; rfl) (lenOf pd31 rfl) (S := [(.ref b378), (.ref r1_377)]) rfl (by exact Nat.le_of_eq rfl) (pc' := 266) (hb hy at_263) rfl (cells' := 28) (slots' := 157) rfl rfl (by decide) (by decide) (wy := [b378]) (fun _ _ _ q => ⟨q.2.1, q.2.2.1⟩) (allS ⟨gz378, (Or.inr gb378)⟩ all0) (fun _ K => IW.keep K (sfS sf382 sf0) W378.inv) ?_
      intro v383 T383 h383 lo383 W383 K383 q383
      obtain ⟨rfl, -, -, X383, Fc383, t383, kb383, gz383, ge383, -, Fv383, A383⟩ := q383
      have B383 : Arv Z h383 t383 kb383 .byte (8 : Int32) [(.int (StrChars.lo8 (60 : Int32))), (.int (StrChars.lo8 (47 : Int32))), (.int (StrChars.lo8 (p1 &&& (255 : Int32)))), (.int (StrChars.lo8 (62 : Int32))), (.int (StrChars.lo8 (60 : Int32))), (.int (StrChars.lo8 (47 : Int32))), (.int (StrChars.lo8 (p2 &&& (255 : Int32)))), (.int (StrChars.lo8 (62 : Int32)))] (.int 0) := A383
      show Gl _ _ _ _ _ _ _ _ [(.ref b378), (.ref r1_377)]
      have c384 := ((P377_4.ext E378).keep K383 (ninS (own_ne P377_2.lt ge378) nin0))
      have c385 := ((P377_3.ext E378).keep K383 (ninS (own_ne P377_2.lt ge378) nin0))
      have c386 := ((P377_5.ext E378).keep K383 (ninS (own_ne P377_5.lt ge378) nin0))
      have c387 := ((P377_2.ext E378).keep K383)
      refine o_virtual W383 (y := (⟨"java/lang/String", "equals", "(Ljava/lang/Object;)Z"⟩ : MethodName)) (z := (⟨"java/lang/String", "equals", "(Ljava/lang/Object;)Z"⟩ : MethodName)) (w233 hw) (w234 hw) (o_nf W383 rfl (w236 hw)) (w236 hw) (w235 hw) (by decide) c387 (argsL := [(.ref b378)]) (CtrN.back (Wd := 0) W383 (rm97 l Z a0 hw gCS r1_377 b378 r2_377 t383 r3_377 (StrChars.lo8 (60 : Int32)) (StrChars.lo8 (47 : Int32)) (StrChars.lo8 (p1 &&& (255 : Int32))) (StrChars.lo8 (p2 &&& (255 : Int32))) kb383 (p1 &&& (255 : Int32)) (p2 &&& (255 : Int32)) h383 W383.old c387 X383 (own_ne P377_2.lt ge378) SgCS NgCS c384 Fc383 c385 Fv383 c386 B383 rfl rfl rfl rfl) (w237 hw) (w23 hw) (by decide) (by decide)) (by rw [hml]; rfl) (lenOf pd33 rfl) (S := []) rfl (by exact Nat.le_of_eq rfl) (pc' := 269) (hb hy at_266) rfl (cells' := 28) (slots' := 157) rfl rfl (by decide) (by decide) (wy := []) (fun _ _ _ q => ⟨q.1, q.2.1⟩) all0 (fun _ K => IW.keep K sf0 W383.inv) ?_
      intro v388 T388 h388 lo388 W388 K388 q388
      obtain rfl := q388.2.2
      show Gl _ _ _ _ _ _ _ _ [(.int 1)]
      refine o_ifN W388 (pc' := 272) (hb hy at_269) (XT.i0_eq_f (by decide)) rfl ?_
      refine o_iconst W388 (v := 1) (pc' := 273) (hb hy at_272) rfl rfl ?_
      refine o_goto W388 (pc' := 277) (hb hy at_273) (by decide) rfl ?_
      exact o_retNW W388 (own_EL hw) hlk (t := .boolean) hret (by simp) (z' := (1 : Int32)) (by decide) (hb hy at_277) (by decide) (by decide) rfl
theorem comes_1 {Post : Tables → Env → Array Value → State → Outcome → State → Prop} (hpost : ∀ tb e args s v u, (limb_1_1.after args s (.returned v) u = true ∧ limb_1_2.after args s (.returned v) u = true ∧ True) → Jvm.ReturnedEndW s (.returned v) u (Jvm.fieldLocs frame_1_writes args s ++ Jvm.arrayLocs frame_1_arrays args s ++ Jvm.staticLocs frame_1_statics s) 56 2368 → Post tb e args s (.returned v) u) :
    ArmFor flags0 classFile x code maxLocals ret World_1 tables_1 room_1 Calls_1 rest_1 Pre_1 Post := by
  intro l hfl _ _ p e ha hc hk s m args below hf hA hF happ hP
  obtain ⟨hcalls, hrest, hpre⟩ := hP
  obtain ⟨-, -, -, hnamed, -, -, -, hat⟩ := (Spec.applies_iff hf).mp happ
  obtain ⟨hg, hn⟩ := and_e (Cond.before_iff.mp (show (Jvm.Cond.and given_1 narrow_1).before args s = true from hpre))
  obtain ⟨g1, g2⟩ := and_e hg
  obtain ⟨g3, g4⟩ := and_e g2
  obtain ⟨g5, g6⟩ := and_e g4
  obtain ⟨g7, g8⟩ := and_e g6
  obtain ⟨w0, w1, w2, w3, rfl⟩ : ∃ w0 w1 w2 w3 : Value, args = #[w0, w1, w2, w3] := by
    have hs : args.size = 4 := by simpa [Cond.value, given_1] using g1
    obtain ⟨L⟩ := args
    match L, hs with
    | [w0, w1, w2, w3], _ => exact ⟨w0, w1, w2, w3, rfl⟩
  obtain ⟨i0, ei0⟩ := is_v g3
  obtain rfl : w0 = (.int i0) := Option.some.inj ei0
  obtain ⟨i1, ei1⟩ := is_v g5
  obtain rfl : w1 = (.int i1) := Option.some.inj ei1
  obtain ⟨i2, ei2⟩ := is_v g7
  obtain rfl : w2 = (.int i2) := Option.some.inj ei2
  obtain ⟨i3, ei3⟩ := is_v g8
  obtain rfl : w3 = (.int i3) := Option.some.inj ei3
  have hw := fun d (hd : d ∈ tables_1) => atoms_spec (ws := Jvm.Cond.code x code maxLocals ret :: tables_1) hat d (List.mem_cons_of_mem _ hd)
  have hfit : Fit s := fun {y c} hc i hi => by
    obtain ⟨ha, rfl⟩ := Array.getElem?_eq_some_iff.mp hc
    have q := List.all_eq_true.mp ((Array.all_eq_true_iff_forall_mem.mp hF) _ (Array.getElem_mem ha)) i (List.mem_range.mpr hi)
    simpa [Array.getElem?_eq_getElem hi] using q
  obtain ⟨hsets, hown0⟩ := atoms_of _ (rest_1_c_eq ▸ (show rest_1_c.before _ s = true from hrest))
  obtain ⟨gCS, eCS⟩ := is_v (Cond.before_iff.mp (hsets _ (List.mem_of_getElem? (i := 1) rfl)))
  have SgCS := Sta.start eCS (Or.inl (hsets _ (List.mem_of_getElem? (i := 0) rfl)))
  have NgCS : ¬ (gCS = (0 : Int32)) := gotF (own_eqS eCS) (not_v (Cond.before_iff.mp (hsets _ (List.mem_of_getElem? (i := 2) rfl))))
  have hCH : CHv s consts_1 s.vm s.heap := CHv.start (own_EL hw) (show ∀ p ∈ consts_1, Jvm.Lit.constHeld s p.1 p.2 from hcalls.1) (show Jvm.Lit.compactW.before _ s = true from (hsets _ (List.mem_of_getElem? (i := 2) rfl))) (w24 hw) (w40 hw)
  obtain ⟨n, o, h1, h2, h3, _, L, rfl, ⟨N, -, rfl⟩, -, hq⟩ := rm_law l s _ hw gCS i0 i1 i2 i3 s.heap (Old.start s) SgCS NgCS p e ha hc hk s m _ below hf ((Spec.applies_iff_loose hf).mp happ).1 ⟨rfl, State.Warmed39.refl s, rfl, hCH⟩ trivial
  refine ⟨n, _, h1, h2, h3, hpost _ _ _ _ _ _ ⟨Cond.after_iff.mpr rfl, Cond.after_iff.mpr (eq_i res_at (Term.int_eval (1)) rfl), trivial⟩ ⟨hq.1, hq.2.1, hq.2.2.1, (hq.2.2.2.sift fun y hy => Or.inr (N y hy)).mono (by decide) (by decide)⟩⟩
theorem main_1_1 : Claimed_1_1 := comes_1 fun _ _ _ _ _ _ h hF => ⟨h.1, hF⟩
theorem main_1_2 : Claimed_1_2 := comes_1 fun _ _ _ _ _ _ h hF => ⟨h.2.1, hF⟩
end Jvm.Pilot.@@N@@
namespace Jvm.Pilot.@@N@@
open Jvm Jvm.ClassFile Sem Op Lib Jvm.Free Jvm.Stand Jvm.Pilot.@@N@@.Jvm.D
/-! MADE BY PROGRAM (witnessworld.py) out of the Statement's table words and the real class files: 26 classes; the members and pool entries that the words name. The judged class is class 1, her method 1. -/
namespace start1
open Jvm.ClassFile
def u (s : String) : CpInfo := .utf8 (stringToUtf16 s)
/-- a pool by its gaps: so many unusable entries, then the entry; so many at the end -/
def gap : Nat → List CpInfo → List CpInfo
  | 0, r => r
  | n + 1, r => .unusable :: gap n r
def poolList (es : List (Nat × CpInfo)) (last : Nat) : List CpInfo := es.foldr (fun e r => gap e.1 (e.2 :: r)) (gap last [])
def pool (es : List (Nat × CpInfo)) (last : Nat) : Array CpInfo := ⟨poolList es last⟩
def fileOf (pool : Array CpInfo) (this : Nat) (attrs : Array Attribute := #[]) (ms : Array MethodInfo := #[]) (fl : Nat := 33) (sup : Nat := 0) (ifs : Array Nat := #[]) (fds : Array FieldInfo := #[]) : ClassFile where
  minorVersion := 0
  majorVersion := 65
  constantPool := pool
  accessFlags := fl
  thisClass := this
  superClass := sup
  interfaces := ifs
  fields := fds
  methods := ms
  attributes := attrs
def plain (name : String) (sup : Option ClassId) : Class where
  name := name
  kind := .ordinary
  loader := none
  accessFlags := 33
  super := sup
  interfaces := #[]
  cf := none
  fields := #[]
  methods := #[]
  instanceTypes := #[]
  staticTypes := #[]
  resolved := #[]
  callSites := []
  init := .initialized
  statics := none
  mirror := none

def pool0 : Array CpInfo := pool [(5, u "<init>"), (0, u "()V"), (1, .class_ 10), (1, u "java/lang/Object")] 113

def k0c0 : Code := { maxStack := 0, maxLocals := 1, code := object_method_1_code, exceptionTable := #[], attributes := #[] }
def k0m0 : Method := { name := "<init>", desc := "()V", sig := { parameters := [], returnType := none }, accessFlags := 1, code := some k0c0 }
/-- java/lang/Object -/
def k0 : Class := { plain "java/lang/Object" none with
  accessFlags := 33
  interfaces := #[]
  cf := some (fileOf pool0 8 #[] #[⟨1, 5, 6, #[]⟩] 33 0 #[] #[])
  fields := #[]
  methods := #[k0m0]
  instanceTypes := #[]
  staticTypes := #[]
  resolved := Array.replicate 124 none
  statics := none }

def pool1 : Array CpInfo := pool [(2, .class_ 4), (0, .nameAndType 5 6), (0, u "java/lang/Object"), (0, u "<init>"), (0, u "()V"), (0, .class_ 8), (0, u "com/example/colophon/colophon/api/Html"), (0, .methodref 7 3), (0, .methodref 11 12), (0, .class_ 13), (0, .nameAndType 14 15), (0, u "java/lang/String"), (0, u "valueOf"), (0, u "(C)Ljava/lang/String;"), (0, .methodref 7 17), (0, .nameAndType 18 19), (0, u "close"), (0, u "(Ljava/lang/String;)Lcom/example/colophon/colophon/api/Html;"), (0, .methodref 7 21), (0, .nameAndType 22 23), (0, u "append"), (0, u "(Lcom/example/colophon/colophon/api/Html;)Lcom/example/colophon/colophon/api/Html;"), (0, .methodref 25 26), (0, .class_ 27), (0, .nameAndType 28 29), (0, u "com/example/colophon/colophon/api/HtmlAppendPinLaw"), (0, u "put"), (0, u "([CIC)V"), (0, .methodref 7 31), (0, .nameAndType 32 33), (0, u "toString"), (0, u "()Ljava/lang/String;"), (0, .methodref 11 35), (0, .nameAndType 5 36), (0, u "([C)V"), (0, .methodref 11 38), (0, .nameAndType 39 40), (0, u "equals"), (0, u "(Ljava/lang/Object;)Z"), (2, u "law"), (0, u "(IIII)Z")] 5

def k1m0 : Method := { name := "<init>", desc := "()V", sig := { parameters := [], returnType := none }, accessFlags := 1, code := none }
def k1c1 : Code := { maxStack := 4, maxLocals := 17, code := code, exceptionTable := #[], attributes := #[] }
def k1m1 : Method := { name := "law", desc := "(IIII)Z", sig := { parameters := [.int, .int, .int, .int], returnType := some .boolean }, accessFlags := 9, code := some k1c1 }
def k1c2 : Code := { maxStack := 3, maxLocals := 3, code := method_3_code, exceptionTable := #[], attributes := #[] }
def k1m2 : Method := { name := "put", desc := "([CIC)V", sig := { parameters := [(.array .char), .int, .char], returnType := none }, accessFlags := 10, code := some k1c2 }
/-- com/example/colophon/colophon/api/HtmlAppendPinLaw -/
def k1 : Class := { plain "com/example/colophon/colophon/api/HtmlAppendPinLaw" (some 0) with
  accessFlags := 49
  interfaces := #[]
  cf := some (fileOf pool1 25 #[] #[⟨1, 5, 6, #[]⟩, ⟨9, 43, 44, #[]⟩, ⟨10, 28, 29, #[]⟩] 49 2 #[] #[])
  fields := #[]
  methods := #[k1m0, k1m1, k1m2]
  instanceTypes := #[]
  staticTypes := #[]
  resolved := Array.replicate 50 none
  statics := none }

def pool2 : Array CpInfo := pool [(1, .methodref 2 3), (0, .class_ 4), (0, .nameAndType 5 6), (0, u "java/lang/Object"), (0, u "<init>"), (0, u "()V"), (0, .class_ 8), (0, u "java/lang/StringBuilder"), (0, .methodref 7 3), (0, .fieldref 11 12), (0, .class_ 13), (0, .nameAndType 14 15), (0, u "com/example/colophon/colophon/api/Html"), (0, u "out"), (0, u "Ljava/lang/StringBuilder;"), (7, .methodref 7 24), (0, .nameAndType 25 26), (0, u "append"), (0, u "(C)Ljava/lang/StringBuilder;"), (0, .methodref 7 28), (0, .nameAndType 25 29), (0, u "(Ljava/lang/String;)Ljava/lang/StringBuilder;"), (6, .string 37), (0, u "</"), (7, u "(Ljava/lang/String;)Lcom/example/colophon/colophon/api/Html;"), (2, u "close"), (10, .methodref 7 60), (0, .nameAndType 25 61), (0, u "(Ljava/lang/CharSequence;)Ljava/lang/StringBuilder;"), (0, .methodref 7 63), (0, .nameAndType 64 65), (0, u "toString"), (0, u "()Ljava/lang/String;"), (26, u "(Lcom/example/colophon/colophon/api/Html;)Lcom/example/colophon/colophon/api/Html;")] 2

def k2c0 : Code := { maxStack := 3, maxLocals := 1, code := prog_5_method_1_code, exceptionTable := #[], attributes := #[] }
def k2m0 : Method := { name := "<init>", desc := "()V", sig := { parameters := [], returnType := none }, accessFlags := 0, code := some k2c0 }
def k2c1 : Code := { maxStack := 2, maxLocals := 2, code := prog_5_method_3_code, exceptionTable := #[], attributes := #[] }
def k2m1 : Method := { name := "close", desc := "(Ljava/lang/String;)Lcom/example/colophon/colophon/api/Html;", sig := { parameters := [(.object "java/lang/String")], returnType := some (.object "com/example/colophon/colophon/api/Html") }, accessFlags := 0, code := some k2c1 }
def k2c2 : Code := { maxStack := 2, maxLocals := 2, code := prog_5_method_7_code, exceptionTable := #[], attributes := #[] }
def k2m2 : Method := { name := "append", desc := "(Lcom/example/colophon/colophon/api/Html;)Lcom/example/colophon/colophon/api/Html;", sig := { parameters := [(.object "com/example/colophon/colophon/api/Html")], returnType := some (.object "com/example/colophon/colophon/api/Html") }, accessFlags := 0, code := some k2c2 }
def k2c3 : Code := { maxStack := 1, maxLocals := 1, code := prog_5_method_8_code, exceptionTable := #[], attributes := #[] }
def k2m3 : Method := { name := "toString", desc := "()Ljava/lang/String;", sig := { parameters := [], returnType := some (.object "java/lang/String") }, accessFlags := 1, code := some k2c3 }
/-- com/example/colophon/colophon/api/Html -/
def k2 : Class := { plain "com/example/colophon/colophon/api/Html" (some 0) with
  accessFlags := 48
  interfaces := #[]
  cf := some (fileOf pool2 11 #[] #[⟨0, 5, 6, #[]⟩, ⟨0, 48, 45, #[]⟩, ⟨0, 25, 92, #[]⟩, ⟨1, 64, 65, #[]⟩] 48 2 #[] #[⟨18, 14, 15, #[]⟩])
  fields := #[⟨"out", (.object "java/lang/StringBuilder"), 18, 0, 0⟩]
  methods := #[k2m0, k2m1, k2m2, k2m3]
  instanceTypes := #[(.object "java/lang/StringBuilder")]
  staticTypes := #[]
  resolved := Array.replicate 95 none
  statics := none }

def pool3 : Array CpInfo := pool [(1, .class_ 2), (0, u "java/lang/Appendable"), (0, .class_ 4), (0, u "java/lang/Object")] 9

/-- java/lang/Appendable -/
def k3 : Class := { plain "java/lang/Appendable" (some 0) with
  accessFlags := 1537
  interfaces := #[]
  cf := some (fileOf pool3 1 #[] #[] 1537 3 #[] #[])
  fields := #[]
  methods := #[]
  instanceTypes := #[]
  staticTypes := #[]
  resolved := Array.replicate 14 none
  statics := none }

def pool4 : Array CpInfo := pool [(2, .class_ 4), (1, u "java/lang/CharSequence"), (42, .class_ 48), (0, u "java/lang/CharSequence$1CodePointIterator"), (10, .class_ 60), (0, u "java/lang/CharSequence$1CharIterator"), (5, .class_ 67), (0, u "java/lang/Object")] 63

/-- java/lang/CharSequence -/
def k4 : Class := { plain "java/lang/CharSequence" (some 0) with
  accessFlags := 1537
  interfaces := #[]
  cf := some (fileOf pool4 2 #[.nestMembers #[47, 59]] #[] 1537 66 #[] #[])
  fields := #[]
  methods := #[]
  instanceTypes := #[]
  staticTypes := #[]
  resolved := Array.replicate 131 none
  statics := none }

def pool5 : Array CpInfo := pool [(1, .class_ 2), (0, u "java/lang/String"), (0, .methodref 4 5), (0, .class_ 6), (0, .nameAndType 7 8), (0, u "java/lang/Object"), (0, u "<init>"), (0, u "()V"), (1, .class_ 12), (1, u "java/lang/AbstractStringBuilder"), (0, u "EMPTYVALUE"), (0, u "[B"), (0, .fieldref 10 16), (0, .nameAndType 17 14), (0, u "value"), (0, .fieldref 1 19), (0, .nameAndType 20 21), (0, u "COMPACT_STRINGS"), (0, u "Z"), (0, .fieldref 10 23), (0, .nameAndType 24 25), (0, u "coder"), (0, u "B"), (6, .methodref 1 33), (0, .nameAndType 34 35), (0, u "length"), (0, u "()I"), (4, .methodref 1 41), (0, .nameAndType 24 42), (0, u "()B"), (2, u "append"), (0, u "(Ljava/lang/String;)Ljava/lang/AbstractStringBuilder;"), (1, .class_ 49), (0, u "java/lang/CharSequence"), (19, u "(Ljava/lang/String;)V"), (0, .methodref 10 71), (0, .nameAndType 72 42), (0, u "getCoder"), (0, .fieldref 10 74), (0, .nameAndType 75 21), (0, u "maybeLatin1"), (2, u "(Ljava/lang/CharSequence;)Ljava/lang/AbstractStringBuilder;"), (0, .fieldref 10 80), (0, .nameAndType 81 82), (0, u "count"), (0, u "I"), (0, .methodref 10 84), (0, .nameAndType 85 86), (0, u "isLatin1"), (0, u "()Z"), (1, .class_ 90), (1, u "java/lang/StringLatin1"), (9, .methodref 10 101), (0, .nameAndType 102 103), (0, u "ensureCapacityInternal"), (0, u "(I)V"), (56, .methodref 10 33), (30, .methodref 88 192), (0, .nameAndType 193 194), (0, u "canEncode"), (0, u "(C)Z"), (13, .methodref 10 209), (0, .nameAndType 210 211), (0, u "putStringAt"), (0, u "(ILjava/lang/String;)V"), (0, .methodref 10 213), (0, .nameAndType 45 214), (0, u "(Ljava/lang/AbstractStringBuilder;)Ljava/lang/AbstractStringBuilder;"), (0, .methodref 10 216), (0, .nameAndType 217 218), (0, u "inflateIfNeededFor"), (0, u "(Ljava/lang/AbstractStringBuilder;)V"), (0, .methodref 10 220), (0, .nameAndType 221 222), (0, u "getBytes"), (0, u "([BIB)V"), (69, u "(C)Ljava/lang/AbstractStringBuilder;"), (16, .methodref 310 311), (0, .class_ 312), (0, .nameAndType 313 314), (0, u "java/lang/System"), (0, u "arraycopy"), (0, u "(Ljava/lang/Object;ILjava/lang/Object;II)V"), (82, .methodref 10 398), (0, .nameAndType 217 69), (0, .methodref 1 220), (3, u "()[B"), (40, .class_ 445), (0, u "java/lang/Appendable"), (106, u "getValue")] 56

def k5m0 : Method := { name := "<init>", desc := "()V", sig := { parameters := [], returnType := none }, accessFlags := 0, code := none }
def k5c1 : Code := { maxStack := 2, maxLocals := 2, code := jdk_68_method_2_code, exceptionTable := #[], attributes := #[] }
def k5m1 : Method := { name := "<init>", desc := "(I)V", sig := { parameters := [.int], returnType := none }, accessFlags := 0, code := some k5c1 }
def k5c2 : Code := { maxStack := 1, maxLocals := 1, code := jdk_68_method_6_code, exceptionTable := #[], attributes := #[] }
def k5m2 : Method := { name := "length", desc := "()I", sig := { parameters := [], returnType := some .int }, accessFlags := 1, code := some k5c2 }
def k5c3 : Code := { maxStack := 4, maxLocals := 3, code := jdk_68_method_9_code, exceptionTable := #[], attributes := #[] }
def k5m3 : Method := { name := "ensureCapacityInternal", desc := "(I)V", sig := { parameters := [.int], returnType := none }, accessFlags := 2, code := some k5c3 }
def k5c4 : Code := { maxStack := 3, maxLocals := 3, code := jdk_68_method_22_code, exceptionTable := #[], attributes := #[] }
def k5m4 : Method := { name := "append", desc := "(Ljava/lang/String;)Ljava/lang/AbstractStringBuilder;", sig := { parameters := [(.object "java/lang/String")], returnType := some (.object "java/lang/AbstractStringBuilder") }, accessFlags := 1, code := some k5c4 }
def k5c5 : Code := { maxStack := 4, maxLocals := 3, code := jdk_68_method_24_code, exceptionTable := #[], attributes := #[] }
def k5m5 : Method := { name := "append", desc := "(Ljava/lang/AbstractStringBuilder;)Ljava/lang/AbstractStringBuilder;", sig := { parameters := [(.object "java/lang/AbstractStringBuilder")], returnType := some (.object "java/lang/AbstractStringBuilder") }, accessFlags := 0, code := some k5c5 }
def k5c6 : Code := { maxStack := 4, maxLocals := 2, code := jdk_68_method_25_code, exceptionTable := #[], attributes := #[] }
def k5m6 : Method := { name := "append", desc := "(Ljava/lang/CharSequence;)Ljava/lang/AbstractStringBuilder;", sig := { parameters := [(.object "java/lang/CharSequence")], returnType := some (.object "java/lang/AbstractStringBuilder") }, accessFlags := 1, code := some k5c6 }
def k5c7 : Code := { maxStack := 5, maxLocals := 2, code := jdk_68_method_31_code, exceptionTable := #[], attributes := #[] }
def k5m7 : Method := { name := "append", desc := "(C)Ljava/lang/AbstractStringBuilder;", sig := { parameters := [.char], returnType := some (.object "java/lang/AbstractStringBuilder") }, accessFlags := 1, code := some k5c7 }
def k5c8 : Code := { maxStack := 1, maxLocals := 1, code := jdk_68_method_64_code, exceptionTable := #[], attributes := #[] }
def k5m8 : Method := { name := "getValue", desc := "()[B", sig := { parameters := [], returnType := some (.array .byte) }, accessFlags := 16, code := some k5c8 }
def k5c9 : Code := { maxStack := 6, maxLocals := 4, code := jdk_68_method_65_code, exceptionTable := #[], attributes := #[] }
def k5m9 : Method := { name := "getBytes", desc := "([BIB)V", sig := { parameters := [(.array .byte), .int, .byte], returnType := none }, accessFlags := 0, code := some k5c9 }
def k5c10 : Code := { maxStack := 1, maxLocals := 1, code := jdk_68_method_67_code, exceptionTable := #[], attributes := #[] }
def k5m10 : Method := { name := "getCoder", desc := "()B", sig := { parameters := [], returnType := some .byte }, accessFlags := 16, code := some k5c10 }
def k5c11 : Code := { maxStack := 1, maxLocals := 1, code := jdk_68_method_68_code, exceptionTable := #[], attributes := #[] }
def k5m11 : Method := { name := "isLatin1", desc := "()Z", sig := { parameters := [], returnType := some .boolean }, accessFlags := 16, code := some k5c11 }
def k5c12 : Code := { maxStack := 2, maxLocals := 2, code := jdk_68_method_71_code, exceptionTable := #[], attributes := #[] }
def k5m12 : Method := { name := "inflateIfNeededFor", desc := "(Ljava/lang/String;)V", sig := { parameters := [(.object "java/lang/String")], returnType := none }, accessFlags := 2, code := some k5c12 }
def k5c13 : Code := { maxStack := 2, maxLocals := 2, code := jdk_68_method_72_code, exceptionTable := #[], attributes := #[] }
def k5m13 : Method := { name := "inflateIfNeededFor", desc := "(Ljava/lang/AbstractStringBuilder;)V", sig := { parameters := [(.object "java/lang/AbstractStringBuilder")], returnType := none }, accessFlags := 2, code := some k5c13 }
def k5c14 : Code := { maxStack := 4, maxLocals := 3, code := jdk_68_method_73_code, exceptionTable := #[], attributes := #[] }
def k5m14 : Method := { name := "putStringAt", desc := "(ILjava/lang/String;)V", sig := { parameters := [.int, (.object "java/lang/String")], returnType := none }, accessFlags := 2, code := some k5c14 }
/-- java/lang/AbstractStringBuilder -/
def k5 : Class := { plain "java/lang/AbstractStringBuilder" (some 0) with
  accessFlags := 1056
  interfaces := #[3, 4]
  cf := some (fileOf pool5 10 #[] #[⟨0, 7, 8, #[]⟩, ⟨0, 7, 103, #[]⟩, ⟨1, 34, 35, #[]⟩, ⟨2, 102, 103, #[]⟩, ⟨1, 45, 46, #[]⟩, ⟨0, 45, 214, #[]⟩, ⟨1, 45, 78, #[]⟩, ⟨1, 45, 292, #[]⟩, ⟨16, 552, 403, #[]⟩, ⟨0, 221, 222, #[]⟩, ⟨16, 72, 42, #[]⟩, ⟨16, 85, 86, #[]⟩, ⟨2, 217, 69, #[]⟩, ⟨2, 217, 218, #[]⟩, ⟨2, 210, 211, #[]⟩] 1056 4 #[444, 48] #[⟨0, 17, 14, #[]⟩, ⟨0, 24, 25, #[]⟩, ⟨0, 75, 21, #[]⟩, ⟨0, 81, 82, #[]⟩, ⟨26, 13, 14, #[]⟩])
  fields := #[⟨"value", (.array .byte), 0, 0, 0⟩, ⟨"coder", .byte, 0, 1, 0⟩, ⟨"maybeLatin1", .boolean, 0, 2, 0⟩, ⟨"count", .int, 0, 3, 0⟩, ⟨"EMPTYVALUE", (.array .byte), 26, 0, 0⟩]
  methods := #[k5m0, k5m1, k5m2, k5m3, k5m4, k5m5, k5m6, k5m7, k5m8, k5m9, k5m10, k5m11, k5m12, k5m13, k5m14]
  instanceTypes := #[(.array .byte), .byte, .boolean, .int]
  staticTypes := #[(.array .byte)]
  resolved := Array.replicate 609 none
  statics := none }

def pool6 : Array CpInfo := pool [(1, .class_ 2), (0, u "java/io/Serializable"), (0, .class_ 4), (0, u "java/lang/Object")] 2

/-- java/io/Serializable -/
def k6 : Class := { plain "java/io/Serializable" (some 0) with
  accessFlags := 1537
  interfaces := #[]
  cf := some (fileOf pool6 1 #[] #[] 1537 3 #[] #[])
  fields := #[]
  methods := #[]
  instanceTypes := #[]
  staticTypes := #[]
  resolved := Array.replicate 7 none
  statics := none }

def pool7 : Array CpInfo := pool [(1, .class_ 2), (0, u "java/lang/Comparable"), (0, .class_ 4), (0, u "java/lang/Object")] 7

/-- java/lang/Comparable -/
def k7 : Class := { plain "java/lang/Comparable" (some 0) with
  accessFlags := 1537
  interfaces := #[]
  cf := some (fileOf pool7 1 #[] #[] 1537 3 #[] #[])
  fields := #[]
  methods := #[]
  instanceTypes := #[]
  staticTypes := #[]
  resolved := Array.replicate 12 none
  statics := none }

def pool8 : Array CpInfo := pool [(1, .methodref 2 3), (0, .class_ 4), (0, .nameAndType 5 6), (0, u "java/lang/AbstractStringBuilder"), (0, u "<init>"), (0, u "(I)V"), (11, .class_ 20), (1, u "java/lang/String"), (3, .class_ 26), (1, u "java/lang/StringBuilder"), (0, u "append"), (0, u "(Ljava/lang/String;)Ljava/lang/StringBuilder;"), (0, .methodref 2 30), (0, .nameAndType 27 31), (0, u "(Ljava/lang/String;)Ljava/lang/AbstractStringBuilder;"), (3, .methodref 2 36), (0, .nameAndType 27 37), (0, u "(Ljava/lang/CharSequence;)Ljava/lang/AbstractStringBuilder;"), (12, .methodref 2 51), (0, .nameAndType 27 52), (0, u "(C)Ljava/lang/AbstractStringBuilder;"), (84, .methodref 18 138), (0, .nameAndType 5 139), (0, u "(Ljava/lang/StringBuilder;)V"), (5, u "()V"), (10, u "()I"), (129, u "(C)Ljava/lang/StringBuilder;"), (14, u "(Ljava/lang/CharSequence;)Ljava/lang/StringBuilder;"), (41, .methodref 2 344), (0, .nameAndType 345 156), (0, u "length"), (3, .class_ 350), (0, u "java/lang/Appendable"), (0, .class_ 352), (0, u "java/io/Serializable"), (0, .class_ 354), (0, u "java/lang/Comparable"), (0, .class_ 356), (0, u "java/lang/CharSequence"), (0, u "serialVersionUID"), (0, u "J"), (40, u "toString"), (0, u "()Ljava/lang/String;")] 21

def k8c0 : Code := { maxStack := 2, maxLocals := 1, code := jdk_67_method_1_code, exceptionTable := #[], attributes := #[] }
def k8m0 : Method := { name := "<init>", desc := "()V", sig := { parameters := [], returnType := none }, accessFlags := 1, code := some k8c0 }
def k8c1 : Code := { maxStack := 2, maxLocals := 2, code := jdk_67_method_7_code, exceptionTable := #[], attributes := #[] }
def k8m1 : Method := { name := "append", desc := "(Ljava/lang/String;)Ljava/lang/StringBuilder;", sig := { parameters := [(.object "java/lang/String")], returnType := some (.object "java/lang/StringBuilder") }, accessFlags := 1, code := some k8c1 }
def k8c2 : Code := { maxStack := 2, maxLocals := 2, code := jdk_67_method_9_code, exceptionTable := #[], attributes := #[] }
def k8m2 : Method := { name := "append", desc := "(Ljava/lang/CharSequence;)Ljava/lang/StringBuilder;", sig := { parameters := [(.object "java/lang/CharSequence")], returnType := some (.object "java/lang/StringBuilder") }, accessFlags := 1, code := some k8c2 }
def k8c3 : Code := { maxStack := 2, maxLocals := 2, code := jdk_67_method_14_code, exceptionTable := #[], attributes := #[] }
def k8m3 : Method := { name := "append", desc := "(C)Ljava/lang/StringBuilder;", sig := { parameters := [.char], returnType := some (.object "java/lang/StringBuilder") }, accessFlags := 1, code := some k8c3 }
def k8c4 : Code := { maxStack := 3, maxLocals := 1, code := jdk_67_method_42_code, exceptionTable := #[], attributes := #[] }
def k8m4 : Method := { name := "toString", desc := "()Ljava/lang/String;", sig := { parameters := [], returnType := some (.object "java/lang/String") }, accessFlags := 1, code := some k8c4 }
def k8c5 : Code := { maxStack := 1, maxLocals := 1, code := jdk_67_method_93_code, exceptionTable := #[], attributes := #[] }
def k8m5 : Method := { name := "length", desc := "()I", sig := { parameters := [], returnType := some .int }, accessFlags := 4161, code := some k8c5 }
/-- java/lang/StringBuilder -/
def k8 : Class := { plain "java/lang/StringBuilder" (some 5) with
  accessFlags := 49
  interfaces := #[3, 6, 7, 4]
  cf := some (fileOf pool8 24 #[] #[⟨1, 5, 145, #[]⟩, ⟨1, 27, 28, #[]⟩, ⟨1, 27, 301, #[]⟩, ⟨1, 27, 286, #[]⟩, ⟨1, 399, 400, #[]⟩, ⟨4161, 345, 156, #[]⟩] 49 2 #[349, 351, 353, 355] #[⟨24, 357, 358, #[]⟩])
  fields := #[⟨"serialVersionUID", .long, 24, 0, 0⟩]
  methods := #[k8m0, k8m1, k8m2, k8m3, k8m4, k8m5]
  instanceTypes := #[(.array .byte), .byte, .boolean, .int]
  staticTypes := #[.long]
  resolved := Array.replicate 422 none
  statics := none }

def pool9 : Array CpInfo := pool [(1, .class_ 2), (0, u "java/lang/constant/Constable"), (0, .class_ 4), (0, u "java/lang/Object")] 6

/-- java/lang/constant/Constable -/
def k9 : Class := { plain "java/lang/constant/Constable" (some 0) with
  accessFlags := 1537
  interfaces := #[]
  cf := some (fileOf pool9 1 #[] #[] 1537 3 #[] #[])
  fields := #[]
  methods := #[]
  instanceTypes := #[]
  staticTypes := #[]
  resolved := Array.replicate 11 none
  statics := none }

def pool10 : Array CpInfo := pool [(1, .class_ 2), (0, u "java/lang/constant/ConstantDesc"), (0, .class_ 4), (0, u "java/lang/Object")] 32

/-- java/lang/constant/ConstantDesc -/
def k10 : Class := { plain "java/lang/constant/ConstantDesc" (some 0) with
  accessFlags := 1537
  interfaces := #[]
  cf := some (fileOf pool10 1 #[] #[] 1537 3 #[] #[])
  fields := #[]
  methods := #[]
  instanceTypes := #[]
  staticTypes := #[]
  resolved := Array.replicate 37 none
  statics := none }

def pool11 : Array CpInfo := pool [(1, .methodref 2 3), (0, .class_ 4), (0, .nameAndType 5 6), (0, u "java/lang/Object"), (0, u "<init>"), (0, u "()V"), (0, .string 8), (0, u ""), (0, .fieldref 10 11), (0, .class_ 12), (0, .nameAndType 13 14), (0, u "java/lang/String"), (0, u "value"), (0, u "[B"), (0, .fieldref 10 16), (0, .nameAndType 17 18), (0, u "coder"), (0, u "B"), (2, u "hash"), (0, u "I"), (2, u "hashIsZero"), (0, u "Z"), (0, .methodref 10 28), (0, .nameAndType 5 29), (0, u "([CIILjava/lang/Void;)V"), (8, .fieldref 10 39), (0, .nameAndType 40 26), (0, u "COMPACT_STRINGS"), (1, .class_ 44), (1, u "java/lang/StringUTF16"), (0, u "compress"), (1, .methodref 42 48), (0, .nameAndType 49 50), (0, u "coderFromArrayLen"), (0, u "([BI)B"), (2, u "toBytes"), (0, .methodref 55 56), (0, .class_ 57), (0, .nameAndType 58 59), (0, u "java/util/Arrays"), (0, u "copyOfRange"), (0, u "([BII)[B"), (47, .class_ 109), (1, u "java/lang/StringLatin1"), (32, u "()Z"), (34, .methodref 42 178), (0, .nameAndType 45 179), (0, u "([CII)[B"), (13, .class_ 195), (1, u "java/lang/System"), (13, .methodref 10 210), (0, .nameAndType 5 211), (0, u "([BB)V"), (0, .methodref 193 213), (0, .nameAndType 214 215), (0, u "arraycopy"), (0, u "(Ljava/lang/Object;ILjava/lang/Object;II)V"), (118, u "()I"), (0, .methodref 10 336), (0, .nameAndType 17 337), (0, u "()B"), (2, u "()[B"), (28, u "(C)Z"), (119, .methodref 10 490), (0, .nameAndType 5 491), (0, u "(Ljava/lang/AbstractStringBuilder;Ljava/lang/Void;)V"), (1, .nameAndType 494 142), (0, u "isLatin1"), (11, .nameAndType 507 334), (0, u "length"), (24, u "getBytes"), (8, .methodref 107 542), (0, .nameAndType 543 544), (0, u "equals"), (0, u "([B[B)Z"), (4, .methodref 550 506), (0, .class_ 551), (0, u "java/lang/AbstractStringBuilder"), (0, .methodref 550 553), (0, .nameAndType 554 340), (0, u "getValue"), (18, u "(Ljava/lang/Object;)Z"), (1, .class_ 576), (0, u "java/lang/CharSequence"), (22, u "CASE_INSENSITIVE_ORDER"), (0, u "Ljava/util/Comparator;"), (181, u "valueOf"), (0, u "(C)Ljava/lang/String;"), (37, u "([BIB)V"), (188, u "([C)V"), (4, .methodref 107 1016), (0, .nameAndType 1017 369), (0, u "canEncode"), (0, .methodref 107 1019), (0, .nameAndType 53 1020), (0, u "(C)[B"), (26, .methodref 550 493), (53, u "serialPersistentFields"), (0, u "[Ljava/io/ObjectStreamField;"), (0, .class_ 1104), (0, u "java/lang/String$CaseInsensitiveComparator"), (1, .class_ 1107), (0, u "java/io/Serializable"), (0, .class_ 1109), (0, u "java/lang/Comparable"), (0, .class_ 1111), (0, u "java/lang/constant/Constable"), (0, .class_ 1113), (0, u "java/lang/constant/ConstantDesc"), (2, u "serialVersionUID"), (0, u "J"), (3, u "REPL"), (0, u "C"), (2, u "LATIN1"), (1, u "UTF16"), (105, u "(Ljava/lang/StringBuilder;)V")] 217

def k11m0 : Method := { name := "<init>", desc := "()V", sig := { parameters := [], returnType := none }, accessFlags := 1, code := none }
def k11c1 : Code := { maxStack := 5, maxLocals := 2, code := jdk_42_method_3_code, exceptionTable := #[], attributes := #[] }
def k11m1 : Method := { name := "<init>", desc := "([C)V", sig := { parameters := [(.array .char)], returnType := none }, accessFlags := 1, code := some k11c1 }
def k11c2 : Code := { maxStack := 3, maxLocals := 2, code := jdk_42_method_53_code, exceptionTable := #[], attributes := #[] }
def k11m2 : Method := { name := "<init>", desc := "(Ljava/lang/StringBuilder;)V", sig := { parameters := [(.object "java/lang/StringBuilder")], returnType := none }, accessFlags := 1, code := some k11c2 }
def k11c3 : Code := { maxStack := 2, maxLocals := 1, code := jdk_42_method_54_code, exceptionTable := #[], attributes := #[] }
def k11m3 : Method := { name := "length", desc := "()I", sig := { parameters := [], returnType := some .int }, accessFlags := 1, code := some k11c3 }
def k11c4 : Code := { maxStack := 2, maxLocals := 3, code := jdk_42_method_66_code, exceptionTable := #[], attributes := #[] }
def k11m4 : Method := { name := "equals", desc := "(Ljava/lang/Object;)Z", sig := { parameters := [(.object "java/lang/Object")], returnType := some .boolean }, accessFlags := 1, code := some k11c4 }
def k11c5 : Code := { maxStack := 4, maxLocals := 1, code := jdk_42_method_139_code, exceptionTable := #[], attributes := #[] }
def k11m5 : Method := { name := "valueOf", desc := "(C)Ljava/lang/String;", sig := { parameters := [.char], returnType := some (.object "java/lang/String") }, accessFlags := 9, code := some k11c5 }
def k11c6 : Code := { maxStack := 5, maxLocals := 4, code := jdk_42_method_147_code, exceptionTable := #[], attributes := #[] }
def k11m6 : Method := { name := "getBytes", desc := "([BIB)V", sig := { parameters := [(.array .byte), .int, .byte], returnType := none }, accessFlags := 0, code := some k11c6 }
def k11c7 : Code := { maxStack := 4, maxLocals := 6, code := jdk_42_method_149_code, exceptionTable := #[], attributes := #[] }
def k11m7 : Method := { name := "<init>", desc := "([CIILjava/lang/Void;)V", sig := { parameters := [(.array .char), .int, .int, (.object "java/lang/Void")], returnType := none }, accessFlags := 2, code := some k11c7 }
def k11c8 : Code := { maxStack := 5, maxLocals := 5, code := jdk_42_method_150_code, exceptionTable := #[], attributes := #[] }
def k11m8 : Method := { name := "<init>", desc := "(Ljava/lang/AbstractStringBuilder;Ljava/lang/Void;)V", sig := { parameters := [(.object "java/lang/AbstractStringBuilder"), (.object "java/lang/Void")], returnType := none }, accessFlags := 0, code := some k11c8 }
def k11c9 : Code := { maxStack := 2, maxLocals := 3, code := jdk_42_method_151_code, exceptionTable := #[], attributes := #[] }
def k11m9 : Method := { name := "<init>", desc := "([BB)V", sig := { parameters := [(.array .byte), .byte], returnType := none }, accessFlags := 0, code := some k11c9 }
def k11c10 : Code := { maxStack := 1, maxLocals := 1, code := jdk_42_method_152_code, exceptionTable := #[], attributes := #[] }
def k11m10 : Method := { name := "coder", desc := "()B", sig := { parameters := [], returnType := some .byte }, accessFlags := 0, code := some k11c10 }
/-- java/lang/String -/
def k11 : Class := { plain "java/lang/String" (some 0) with
  accessFlags := 49
  interfaces := #[6, 7, 4, 9, 10]
  cf := some (fileOf pool11 10 #[.nestMembers #[1103]] #[⟨1, 5, 6, #[]⟩, ⟨1, 5, 1010, #[]⟩, ⟨1, 5, 1233, #[]⟩, ⟨1, 507, 334, #[]⟩, ⟨1, 543, 573, #[]⟩, ⟨9, 782, 783, #[]⟩, ⟨0, 532, 821, #[]⟩, ⟨2, 5, 29, #[]⟩, ⟨0, 5, 491, #[]⟩, ⟨0, 5, 211, #[]⟩, ⟨0, 17, 337, #[]⟩] 49 2 #[1106, 1108, 575, 1110, 1112] #[⟨18, 13, 14, #[]⟩, ⟨18, 17, 18, #[]⟩, ⟨2, 21, 22, #[]⟩, ⟨2, 25, 26, #[]⟩, ⟨26, 1116, 1117, #[]⟩, ⟨24, 40, 26, #[]⟩, ⟨26, 1101, 1102, #[]⟩, ⟨26, 1121, 1122, #[]⟩, ⟨25, 599, 600, #[]⟩, ⟨24, 1125, 18, #[]⟩, ⟨24, 1127, 18, #[]⟩])
  fields := #[⟨"value", (.array .byte), 18, 0, 0⟩, ⟨"coder", .byte, 18, 1, 0⟩, ⟨"hash", .int, 2, 2, 0⟩, ⟨"hashIsZero", .boolean, 2, 3, 0⟩, ⟨"serialVersionUID", .long, 26, 0, 0⟩, ⟨"COMPACT_STRINGS", .boolean, 24, 1, 0⟩, ⟨"serialPersistentFields", (.array (.object "java/io/ObjectStreamField")), 26, 2, 0⟩, ⟨"REPL", .char, 26, 3, 0⟩, ⟨"CASE_INSENSITIVE_ORDER", (.object "java/util/Comparator"), 25, 4, 0⟩, ⟨"LATIN1", .byte, 24, 5, 0⟩, ⟨"UTF16", .byte, 24, 6, 0⟩]
  methods := #[k11m0, k11m1, k11m2, k11m3, k11m4, k11m5, k11m6, k11m7, k11m8, k11m9, k11m10]
  instanceTypes := #[(.array .byte), .byte, .int, .boolean]
  staticTypes := #[.long, .boolean, (.array (.object "java/io/ObjectStreamField")), .char, (.object "java/util/Comparator"), .byte, .byte]
  resolved := Array.replicate 1451 none
  statics := some 0 }

def pool12 : Array CpInfo := pool [(4, .class_ 6), (1, u "java/lang/Object"), (0, u "<init>"), (0, u "()V"), (5, .class_ 16), (1, u "java/lang/StringLatin1"), (73, u "canEncode"), (14, u "(C)Z"), (15, u "$assertionsDisabled"), (0, u "Z"), (98, .class_ 223), (1, u "java/lang/StringLatin1$LinesSpliterator"), (57, u "equals"), (0, u "([B[B)Z"), (97, u "toBytes"), (1, u "(C)[B"), (7, .class_ 391), (0, u "java/lang/StringLatin1$CharsSpliterator")] 3

def k12m0 : Method := { name := "<init>", desc := "()V", sig := { parameters := [], returnType := none }, accessFlags := 0, code := none }
def k12c1 : Code := { maxStack := 2, maxLocals := 1, code := jdk_43_method_3_code, exceptionTable := #[], attributes := #[] }
def k12m1 : Method := { name := "canEncode", desc := "(C)Z", sig := { parameters := [.char], returnType := some .boolean }, accessFlags := 9, code := some k12c1 }
def k12c2 : Code := { maxStack := 3, maxLocals := 3, code := jdk_43_method_13_code, exceptionTable := #[], attributes := #[] }
def k12m2 : Method := { name := "equals", desc := "([B[B)Z", sig := { parameters := [(.array .byte), (.array .byte)], returnType := some .boolean }, accessFlags := 9, code := some k12c2 }
def k12c3 : Code := { maxStack := 4, maxLocals := 1, code := jdk_43_method_46_code, exceptionTable := #[], attributes := #[] }
def k12m3 : Method := { name := "toBytes", desc := "(C)[B", sig := { parameters := [.char], returnType := some (.array .byte) }, accessFlags := 9, code := some k12c3 }
/-- java/lang/StringLatin1 -/
def k12 : Class := { plain "java/lang/StringLatin1" (some 0) with
  accessFlags := 48
  interfaces := #[]
  cf := some (fileOf pool12 14 #[.nestMembers #[390, 221]] #[⟨0, 7, 8, #[]⟩, ⟨9, 90, 105, #[]⟩, ⟨9, 281, 282, #[]⟩, ⟨9, 380, 382, #[]⟩] 48 4 #[] #[⟨4120, 121, 122, #[]⟩])
  fields := #[⟨"$assertionsDisabled", .boolean, 4120, 0, 0⟩]
  methods := #[k12m0, k12m1, k12m2, k12m3]
  instanceTypes := #[]
  staticTypes := #[.boolean]
  resolved := Array.replicate 395 none
  statics := none }

def pool13 : Array CpInfo := pool [(2, .class_ 4), (1, u "java/lang/Object"), (0, u "<init>"), (0, u "()V"), (1, .class_ 10), (1, u "java/lang/System"), (0, u "allowSecurityManager"), (0, u "I"), (16, u "cons"), (0, u "Ljava/io/Console;"), (77, .class_ 110), (1, u "java/lang/System$CallersHolder"), (43, u "initialErrStream"), (0, u "Ljava/io/PrintStream;"), (19, u "security"), (0, u "Ljava/lang/SecurityManager;"), (31, .class_ 209), (0, u "java/lang/System$1"), (7, u "props"), (0, u "Ljava/util/Properties;"), (2, u "lineSeparator"), (0, u "Ljava/lang/String;"), (96, .class_ 321), (1, u "java/lang/System$LoggerFinder"), (5, .class_ 328), (0, u "java/lang/System$Logger"), (67, u "err"), (2, u "out"), (91, u "notSupportedJnuEncoding"), (15, u "in"), (17, u "initialIn"), (0, u "Ljava/io/InputStream;"), (35, u "bootLayer"), (0, u "Ljava/lang/ModuleLayer;"), (99, .class_ 664), (0, u "java/lang/System$2"), (9, u "NEVER"), (2, u "MAYBE"), (49, u "arraycopy"), (0, u "(Ljava/lang/Object;ILjava/lang/Object;II)V"), (72, .class_ 802), (0, u "java/lang/System$Logger$Level")] 31

def k13m0 : Method := { name := "<init>", desc := "()V", sig := { parameters := [], returnType := none }, accessFlags := 2, code := none }
def k13m1 : Method := { name := "arraycopy", desc := "(Ljava/lang/Object;ILjava/lang/Object;II)V", sig := { parameters := [(.object "java/lang/Object"), .int, (.object "java/lang/Object"), .int, .int], returnType := none }, accessFlags := 265, code := none }
/-- java/lang/System -/
def k13 : Class := { plain "java/lang/System" (some 0) with
  accessFlags := 49
  interfaces := #[]
  cf := some (fileOf pool13 8 #[.nestMembers #[319, 327, 801, 108, 663, 208]] #[⟨2, 5, 6, #[]⟩, ⟨265, 727, 728, #[]⟩] 49 2 #[] #[⟨25, 507, 526, #[]⟩, ⟨25, 399, 155, #[]⟩, ⟨25, 396, 155, #[]⟩, ⟨10, 525, 526, #[]⟩, ⟨26, 674, 12, #[]⟩, ⟨26, 677, 12, #[]⟩, ⟨10, 11, 12, #[]⟩, ⟨74, 175, 176, #[]⟩, ⟨10, 491, 222, #[]⟩, ⟨74, 29, 30, #[]⟩, ⟨74, 154, 155, #[]⟩, ⟨10, 217, 218, #[]⟩, ⟨10, 221, 222, #[]⟩, ⟨8, 562, 563, #[]⟩])
  fields := #[⟨"in", (.object "java/io/InputStream"), 25, 0, 0⟩, ⟨"out", (.object "java/io/PrintStream"), 25, 1, 0⟩, ⟨"err", (.object "java/io/PrintStream"), 25, 2, 0⟩, ⟨"initialIn", (.object "java/io/InputStream"), 10, 3, 0⟩, ⟨"NEVER", .int, 26, 4, 0⟩, ⟨"MAYBE", .int, 26, 5, 0⟩, ⟨"allowSecurityManager", .int, 10, 6, 0⟩, ⟨"security", (.object "java/lang/SecurityManager"), 74, 7, 0⟩, ⟨"notSupportedJnuEncoding", (.object "java/lang/String"), 10, 8, 0⟩, ⟨"cons", (.object "java/io/Console"), 74, 9, 0⟩, ⟨"initialErrStream", (.object "java/io/PrintStream"), 74, 10, 0⟩, ⟨"props", (.object "java/util/Properties"), 10, 11, 0⟩, ⟨"lineSeparator", (.object "java/lang/String"), 10, 12, 0⟩, ⟨"bootLayer", (.object "java/lang/ModuleLayer"), 8, 13, 0⟩]
  methods := #[k13m0, k13m1]
  instanceTypes := #[]
  staticTypes := #[(.object "java/io/InputStream"), (.object "java/io/PrintStream"), (.object "java/io/PrintStream"), (.object "java/io/InputStream"), .int, .int, .int, (.object "java/lang/SecurityManager"), (.object "java/lang/String"), (.object "java/io/Console"), (.object "java/io/PrintStream"), (.object "java/util/Properties"), (.object "java/lang/String"), (.object "java/lang/ModuleLayer")]
  resolved := Array.replicate 834 none
  statics := none }

def pool14 : Array CpInfo := pool [(2, .class_ 4), (1, u "java/lang/Object"), (0, u "<init>"), (0, u "()V"), (7, .class_ 16), (1, u "java/util/Arrays"), (57, .class_ 76), (1, u "java/util/Arrays$NaturalOrder"), (36, .class_ 115), (1, u "java/util/Arrays$LegacyMergeSort"), (1, u "Z"), (21, u "copyOfRange"), (10, .methodref 151 152), (0, .class_ 153), (0, .nameAndType 154 155), (0, u "java/lang/System"), (0, u "arraycopy"), (0, u "(Ljava/lang/Object;ILjava/lang/Object;II)V"), (148, .methodref 305 306), (0, .class_ 307), (0, .nameAndType 308 309), (0, u "java/lang/Math"), (0, u "min"), (0, u "(II)I"), (29, .methodref 14 340), (0, .nameAndType 341 342), (0, u "copyOfRangeByte"), (0, u "([BII)[B"), (0, .methodref 14 344), (0, .nameAndType 345 346), (0, u "checkLength"), (0, u "(II)V"), (28, .class_ 376), (0, u "java/util/Arrays$ArrayList"), (68, u "$assertionsDisabled"), (269, u "MIN_ARRAY_SORT_GRAN"), (0, u "I"), (2, u "INSERTIONSORT_THRESHOLD"), (255, .class_ 976), (0, u "java/util/Arrays$ArrayItr")] 52

def k14m0 : Method := { name := "<init>", desc := "()V", sig := { parameters := [], returnType := none }, accessFlags := 2, code := none }
def k14c1 : Code := { maxStack := 4, maxLocals := 2, code := jdk_65_method_131_code, exceptionTable := #[], attributes := #[] }
def k14m1 : Method := { name := "checkLength", desc := "(II)V", sig := { parameters := [.int, .int], returnType := none }, accessFlags := 10, code := some k14c1 }
def k14c2 : Code := { maxStack := 3, maxLocals := 3, code := jdk_65_method_132_code, exceptionTable := #[], attributes := #[] }
def k14m2 : Method := { name := "copyOfRange", desc := "([BII)[B", sig := { parameters := [(.array .byte), .int, .int], returnType := some (.array .byte) }, accessFlags := 9, code := some k14c2 }
def k14c3 : Code := { maxStack := 6, maxLocals := 5, code := jdk_65_method_133_code, exceptionTable := #[], attributes := #[] }
def k14m3 : Method := { name := "copyOfRangeByte", desc := "([BII)[B", sig := { parameters := [(.array .byte), .int, .int], returnType := some (.array .byte) }, accessFlags := 10, code := some k14c3 }
/-- java/util/Arrays -/
def k14 : Class := { plain "java/util/Arrays" (some 0) with
  accessFlags := 49
  interfaces := #[]
  cf := some (fileOf pool14 14 #[.nestMembers #[975, 375, 113, 74]] #[⟨2, 5, 6, #[]⟩, ⟨10, 345, 346, #[]⟩, ⟨9, 139, 342, #[]⟩, ⟨10, 341, 342, #[]⟩] 49 2 #[] #[⟨26, 715, 716, #[]⟩, ⟨26, 719, 716, #[]⟩, ⟨4120, 445, 117, #[]⟩])
  fields := #[⟨"MIN_ARRAY_SORT_GRAN", .int, 26, 0, 0⟩, ⟨"INSERTIONSORT_THRESHOLD", .int, 26, 1, 0⟩, ⟨"$assertionsDisabled", .boolean, 4120, 2, 0⟩]
  methods := #[k14m0, k14m1, k14m2, k14m3]
  instanceTypes := #[]
  staticTypes := #[.int, .int, .boolean]
  resolved := Array.replicate 1029 none
  statics := none }

def pool15 : Array CpInfo := pool [(1, .class_ 2), (0, u "java/lang/Math"), (1, .class_ 6), (1, u "java/lang/Object"), (0, u "<init>"), (0, u "()V"), (89, .class_ 100), (1, u "java/lang/Math$RandomNumberGeneratorHolder"), (71, u "negativeZeroFloatBits"), (0, u "J"), (2, u "negativeZeroDoubleBits"), (24, u "min"), (43, u "$assertionsDisabled"), (0, u "Z"), (88, u "(II)I"), (2, u "twoToTheDoubleScaleDown"), (0, u "D"), (4, u "twoToTheDoubleScaleUp"), (9, u "E"), (3, u "PI"), (2, u "TAU"), (2, u "DEGREES_TO_RADIANS"), (0, u "RADIANS_TO_DEGREES")] 94

def k15m0 : Method := { name := "<init>", desc := "()V", sig := { parameters := [], returnType := none }, accessFlags := 2, code := none }
def k15c1 : Code := { maxStack := 2, maxLocals := 2, code := jdk_29_method_69_code, exceptionTable := #[], attributes := #[] }
def k15m1 : Method := { name := "min", desc := "(II)I", sig := { parameters := [.int, .int], returnType := some .int }, accessFlags := 9, code := some k15c1 }
/-- java/lang/Math -/
def k15 : Class := { plain "java/lang/Math" (some 0) with
  accessFlags := 49
  interfaces := #[]
  cf := some (fileOf pool15 1 #[.nestMembers #[98]] #[⟨2, 7, 8, #[]⟩, ⟨9, 201, 335, #[]⟩] 49 4 #[] #[⟨25, 354, 339, #[]⟩, ⟨25, 358, 339, #[]⟩, ⟨25, 361, 339, #[]⟩, ⟨26, 364, 339, #[]⟩, ⟨26, 365, 339, #[]⟩, ⟨26, 172, 173, #[]⟩, ⟨26, 176, 173, #[]⟩, ⟨8, 344, 339, #[]⟩, ⟨8, 338, 339, #[]⟩, ⟨4120, 245, 246, #[]⟩])
  fields := #[⟨"E", .double, 25, 0, 0⟩, ⟨"PI", .double, 25, 1, 0⟩, ⟨"TAU", .double, 25, 2, 0⟩, ⟨"DEGREES_TO_RADIANS", .double, 26, 3, 0⟩, ⟨"RADIANS_TO_DEGREES", .double, 26, 4, 0⟩, ⟨"negativeZeroFloatBits", .long, 26, 5, 0⟩, ⟨"negativeZeroDoubleBits", .long, 26, 6, 0⟩, ⟨"twoToTheDoubleScaleUp", .double, 8, 7, 0⟩, ⟨"twoToTheDoubleScaleDown", .double, 8, 8, 0⟩, ⟨"$assertionsDisabled", .boolean, 4120, 9, 0⟩]
  methods := #[k15m0, k15m1]
  instanceTypes := #[]
  staticTypes := #[.double, .double, .double, .double, .double, .long, .long, .double, .double, .boolean]
  resolved := Array.replicate 460 none
  statics := none }

def pool16 : Array CpInfo := pool [(6, .class_ 8), (1, u "java/lang/Object"), (0, u "<init>"), (0, u "()V"), (1, .class_ 14), (1, u "java/lang/StringUTF16"), (31, u "$assertionsDisabled"), (0, u "Z"), (13, u "HI_BYTE_SHIFT"), (0, u "I"), (2, u "LO_BYTE_SHIFT"), (49, .methodref 12 116), (0, .nameAndType 117 118), (0, u "compress"), (0, u "([CI[BII)I"), (3, u "([CII)[B"), (138, u "coderFromArrayLen"), (0, u "([BI)B"), (106, .class_ 371), (1, u "java/lang/StringUTF16$LinesSpliterator"), (58, u "MAX_LENGTH"), (196, .class_ 628), (0, u "java/lang/StringUTF16$CodePointsSpliterator"), (0, .class_ 630), (0, u "java/lang/StringUTF16$CharsSpliterator")] 4

def k16m0 : Method := { name := "<init>", desc := "()V", sig := { parameters := [], returnType := none }, accessFlags := 0, code := none }
def k16c1 : Code := { maxStack := 2, maxLocals := 2, code := jdk_52_method_15_code, exceptionTable := #[], attributes := #[] }
def k16m1 : Method := { name := "coderFromArrayLen", desc := "([BI)B", sig := { parameters := [(.array .byte), .int], returnType := some .byte }, accessFlags := 8, code := some k16c1 }
def k16c2 : Code := { maxStack := 5, maxLocals := 6, code := jdk_52_method_16_code, exceptionTable := #[], attributes := #[] }
def k16m2 : Method := { name := "compress", desc := "([CII)[B", sig := { parameters := [(.array .char), .int, .int], returnType := some (.array .byte) }, accessFlags := 9, code := some k16c2 }
def k16c3 : Code := { maxStack := 3, maxLocals := 7, code := jdk_52_method_21_code, exceptionTable := #[], attributes := #[] }
def k16m3 : Method := { name := "compress", desc := "([CI[BII)I", sig := { parameters := [(.array .char), .int, (.array .byte), .int, .int], returnType := some .int }, accessFlags := 9, code := some k16c3 }
/-- java/lang/StringUTF16 -/
def k16 : Class := { plain "java/lang/StringUTF16" (some 0) with
  accessFlags := 48
  interfaces := #[]
  cf := some (fileOf pool16 12 #[.nestMembers #[627, 629, 369]] #[⟨0, 9, 10, #[]⟩, ⟨8, 261, 262, #[]⟩, ⟨9, 117, 122, #[]⟩, ⟨9, 117, 118, #[]⟩] 48 6 #[] #[⟨26, 61, 62, #[]⟩, ⟨26, 65, 62, #[]⟩, ⟨24, 430, 62, #[]⟩, ⟨4120, 46, 47, #[]⟩])
  fields := #[⟨"HI_BYTE_SHIFT", .int, 26, 0, 0⟩, ⟨"LO_BYTE_SHIFT", .int, 26, 1, 0⟩, ⟨"MAX_LENGTH", .int, 24, 2, 0⟩, ⟨"$assertionsDisabled", .boolean, 4120, 3, 0⟩]
  methods := #[k16m0, k16m1, k16m2, k16m3]
  instanceTypes := #[]
  staticTypes := #[.int, .int, .int, .boolean]
  resolved := Array.replicate 635 none
  statics := none }

def pool17 : Array CpInfo := pool [(2, .class_ 4), (1, u "java/lang/Object"), (0, u "<init>"), (0, u "()V"), (17, .class_ 26), (1, u "jdk/internal/util/Preconditions"), (28, .class_ 56), (0, u "jdk/internal/util/Preconditions$4"), (57, .class_ 115), (0, u "jdk/internal/util/Preconditions$1"), (7, u "SIOOBE_FORMATTER"), (0, u "Ljava/util/function/BiFunction;"), (0, .class_ 126), (0, u "jdk/internal/util/Preconditions$2"), (3, u "AIOOBE_FORMATTER"), (0, .class_ 132), (0, u "jdk/internal/util/Preconditions$3"), (3, u "IOOBE_FORMATTER")] 57

def k17m0 : Method := { name := "<init>", desc := "()V", sig := { parameters := [], returnType := none }, accessFlags := 1, code := none }
/-- jdk/internal/util/Preconditions -/
def k17 : Class := { plain "jdk/internal/util/Preconditions" (some 0) with
  accessFlags := 33
  interfaces := #[]
  cf := some (fileOf pool17 24 #[.nestMembers #[55, 131, 125, 114]] #[⟨1, 5, 6, #[]⟩] 33 2 #[] #[⟨25, 123, 124, #[]⟩, ⟨25, 130, 124, #[]⟩, ⟨25, 136, 124, #[]⟩])
  fields := #[⟨"SIOOBE_FORMATTER", (.object "java/util/function/BiFunction"), 25, 0, 0⟩, ⟨"AIOOBE_FORMATTER", (.object "java/util/function/BiFunction"), 25, 1, 0⟩, ⟨"IOOBE_FORMATTER", (.object "java/util/function/BiFunction"), 25, 2, 0⟩]
  methods := #[k17m0]
  instanceTypes := #[]
  staticTypes := #[(.object "java/util/function/BiFunction"), (.object "java/util/function/BiFunction"), (.object "java/util/function/BiFunction")]
  resolved := Array.replicate 194 none
  statics := some 1 }

def pool18 : Array CpInfo := pool [(9, u "<init>"), (6, .class_ 18), (1, u "java/lang/Object"), (0, u "()V"), (1, .class_ 23), (1, u "jdk/internal/util/ArraysSupport"), (0, u "LOG2_ARRAY_LONG_INDEX_SCALE"), (0, u "I"), (2, u "U"), (0, u "Ljdk/internal/misc/Unsafe;"), (8, u "BIG_ENDIAN"), (0, u "Z"), (8, u "LOG2_BYTE_BIT_SIZE"), (4, u "LOG2_ARRAY_INT_INDEX_SCALE"), (54, u "JLA"), (0, u "Ljdk/internal/access/JavaLangAccess;"), (11, u "LOG2_ARRAY_BOOLEAN_INDEX_SCALE"), (9, u "LOG2_ARRAY_BYTE_INDEX_SCALE"), (5, u "LOG2_ARRAY_CHAR_INDEX_SCALE"), (5, u "LOG2_ARRAY_SHORT_INDEX_SCALE"), (18, u "LOG2_ARRAY_FLOAT_INDEX_SCALE"), (24, u "LOG2_ARRAY_DOUBLE_INDEX_SCALE"), (89, u "T_BOOLEAN"), (2, u "T_CHAR"), (1, u "T_FLOAT"), (1, u "T_DOUBLE"), (1, u "T_BYTE"), (1, u "T_SHORT"), (1, u "T_INT"), (1, u "T_LONG"), (1, u "SOFT_MAX_ARRAY_LENGTH")] 83

def k18m0 : Method := { name := "<init>", desc := "()V", sig := { parameters := [], returnType := none }, accessFlags := 2, code := none }
/-- jdk/internal/util/ArraysSupport -/
def k18 : Class := { plain "jdk/internal/util/ArraysSupport" (some 0) with
  accessFlags := 33
  interfaces := #[]
  cf := some (fileOf pool18 21 #[] #[⟨2, 9, 19, #[]⟩] 33 16 #[] #[⟨24, 28, 29, #[]⟩, ⟨26, 38, 39, #[]⟩, ⟨25, 121, 25, #[]⟩, ⟨25, 131, 25, #[]⟩, ⟨25, 137, 25, #[]⟩, ⟨25, 143, 25, #[]⟩, ⟨25, 53, 25, #[]⟩, ⟨25, 24, 25, #[]⟩, ⟨25, 162, 25, #[]⟩, ⟨25, 187, 25, #[]⟩, ⟨26, 48, 25, #[]⟩, ⟨25, 277, 25, #[]⟩, ⟨25, 280, 25, #[]⟩, ⟨25, 282, 25, #[]⟩, ⟨25, 284, 25, #[]⟩, ⟨25, 286, 25, #[]⟩, ⟨25, 288, 25, #[]⟩, ⟨25, 290, 25, #[]⟩, ⟨25, 292, 25, #[]⟩, ⟨26, 108, 109, #[]⟩, ⟨25, 294, 25, #[]⟩])
  fields := #[⟨"U", (.object "jdk/internal/misc/Unsafe"), 24, 0, 0⟩, ⟨"BIG_ENDIAN", .boolean, 26, 1, 0⟩, ⟨"LOG2_ARRAY_BOOLEAN_INDEX_SCALE", .int, 25, 2, 0⟩, ⟨"LOG2_ARRAY_BYTE_INDEX_SCALE", .int, 25, 3, 0⟩, ⟨"LOG2_ARRAY_CHAR_INDEX_SCALE", .int, 25, 4, 0⟩, ⟨"LOG2_ARRAY_SHORT_INDEX_SCALE", .int, 25, 5, 0⟩, ⟨"LOG2_ARRAY_INT_INDEX_SCALE", .int, 25, 6, 0⟩, ⟨"LOG2_ARRAY_LONG_INDEX_SCALE", .int, 25, 7, 0⟩, ⟨"LOG2_ARRAY_FLOAT_INDEX_SCALE", .int, 25, 8, 0⟩, ⟨"LOG2_ARRAY_DOUBLE_INDEX_SCALE", .int, 25, 9, 0⟩, ⟨"LOG2_BYTE_BIT_SIZE", .int, 26, 10, 0⟩, ⟨"T_BOOLEAN", .int, 25, 11, 0⟩, ⟨"T_CHAR", .int, 25, 12, 0⟩, ⟨"T_FLOAT", .int, 25, 13, 0⟩, ⟨"T_DOUBLE", .int, 25, 14, 0⟩, ⟨"T_BYTE", .int, 25, 15, 0⟩, ⟨"T_SHORT", .int, 25, 16, 0⟩, ⟨"T_INT", .int, 25, 17, 0⟩, ⟨"T_LONG", .int, 25, 18, 0⟩, ⟨"JLA", (.object "jdk/internal/access/JavaLangAccess"), 26, 19, 0⟩, ⟨"SOFT_MAX_ARRAY_LENGTH", .int, 25, 20, 0⟩]
  methods := #[k18m0]
  instanceTypes := #[]
  staticTypes := #[(.object "jdk/internal/misc/Unsafe"), .boolean, .int, .int, .int, .int, .int, .int, .int, .int, .int, .int, .int, .int, .int, .int, .int, .int, .int, (.object "jdk/internal/access/JavaLangAccess"), .int]
  resolved := Array.replicate 378 none
  statics := none }

def pool19 : Array CpInfo := pool [(1, u "java/lang/Cloneable"), (0, .class_ 1), (0, u "java/lang/Object"), (0, .class_ 3)] 3

/-- java/lang/Cloneable -/
def k19 : Class := { plain "java/lang/Cloneable" (some 0) with
  accessFlags := 1537
  interfaces := #[]
  cf := some (fileOf pool19 2 #[] #[] 1537 4 #[] #[])
  fields := #[]
  methods := #[]
  instanceTypes := #[]
  staticTypes := #[]
  resolved := Array.replicate 8 none
  statics := none }

/-- the primitive byte -/
def k20 : Class := { plain "byte" none with kind := .primitive 'B', accessFlags := 0x411 }
/-- [B -/
def k21 : Class := { plain "[B" (some 0) with kind := .array 20 .byte, interfaces := #[19, 6], accessFlags := 1041 }

/-- the primitive char -/
def k22 : Class := { plain "char" none with kind := .primitive 'C', accessFlags := 0x411 }
/-- [C -/
def k23 : Class := { plain "[C" (some 0) with kind := .array 22 .char, interfaces := #[19, 6], accessFlags := 1041 }

/-- the primitive int -/
def k24 : Class := { plain "int" none with kind := .primitive 'I', accessFlags := 0x411 }
/-- [I -/
def k25 : Class := { plain "[I" (some 0) with kind := .array 24 .int, interfaces := #[19, 6], accessFlags := 1041 }

def heap : Heap := #[{ cls := 11, slots := #[.long 0, .int 1, .null, .int 0, .null, .int 0, .int 0], vm := .statics 11 },
  { cls := 17, slots := #[.null, .null, .null], vm := .statics 17 }]
def classes : Array Class := #[k0, k1, k2, k3, k4, k5, k6, k7, k8, k9, k10, k11, k12, k13, k14, k15, k16, k17, k18, k19, k20, k21, k22, k23, k24, k25]
def interned : List (Array UInt16 × Addr) := []
def slotsUsed : Nat := 10
def theMethod : MethodId := ⟨1, 1⟩
def args0 : Array Value := #[.int 5, .int 6, .int 7, .int 8]
def aboutOver (below : List Frame) : State where
  vm := { classes := classes, interned := interned.toArray }
  heap := heap
  slotsUsed := slotsUsed
  threads := #[{ frames := .invoking theMethod args0 :: below }]
def below0 : List Frame := [.native { method := ⟨0, 0⟩, args := #[] }]
def about1 : State := aboutOver below0
def p0 : Program := .bare "" "" ""
def e0 : Env := launch0.env 0 0 0
theorem w_frames : about1.frames = Frame.invoking theMethod args0 :: below0 := rfl
set_option maxRecDepth 65536 in
theorem w_args : argsFit about1.vm theMethod args0 = true := by decide +kernel
set_option maxRecDepth 65536 in
theorem w_heap : heapFits about1 = true := by decide +kernel
set_option maxRecDepth 65536 in
theorem w_runnable : about1.curStatus? = some .runnable := by decide +kernel
set_option maxRecDepth 65536 in
theorem w_alone : about1.alone = true := by decide +kernel
set_option maxRecDepth 65536 in
theorem w_named : about1.methodNamed? x = some theMethod := by decide +kernel
set_option maxRecDepth 65536 in
theorem w_hears : about1.hears theMethod below0 = true := by decide +kernel
set_option maxRecDepth 65536 in
theorem w_ripe : about1.ripe theMethod args0 below0 = true := by decide +kernel
theorem w_running : about1.status = .running := rfl
set_option maxRecDepth 65536 in
theorem w_room : about1.hasRoom e0.platform room_1 = true :=
  launch0.hasRoom_least _ room_1 (by decide +kernel) (by decide +kernel) (by decide +kernel) (by decide +kernel) (by decide +kernel) (by decide +kernel)
theorem allAtoms_all (ts : List Jvm.Cond) (a : Array Jvm.Value) (st : Jvm.State) : (allAtoms ts).before a st = ts.all (fun c => c.before a st) := by
  induction ts with
  | nil => rfl
  | cons c t ih =>
    show (Jvm.Cond.and c (allAtoms t)).before a st = _
    rw [Jvm.Cond.before_and, ih, List.all_cons]
def words1 : List Jvm.Cond := Jvm.Cond.code x code maxLocals ret :: tables_1
/-- a 'code' word, met by the world's own term for the bytes: nothing is compared byte by byte -/
theorem code_word {y : MethodName} {bytes : ByteArray} {mx : Nat} {rt : Option FieldType} {a : Array Value} {s : State} {m : MethodId} {meth : Method} {c : Code} (h1 : s.methodNamed? y = some m) (h2 : s.vm.method? m = some meth) (h3 : meth.code = some c) (h4 : c.code = bytes)
    (h5 : (c.maxLocals == mx && c.exceptionTable.isEmpty && decide (c.maxStack ≤ mostOperands) && decide (meth.sig.returnType = rt) && !meth.locks && decide (parseMethodDescriptor y.desc = some meth.sig)) = true) : (Jvm.Cond.code y bytes mx rt).before a s = true := by
  simp only [Bool.and_eq_true, beq_iff_eq, Bool.not_eq_true', decide_eq_true_eq] at h5
  obtain ⟨⟨⟨⟨⟨g1, g2⟩, g3⟩, g4⟩, g5⟩, g6⟩ := h5
  simp [Cond.before, Cond.holds, Cond.value, h1, h2, h3, h4, g1, g2, g3, g4, g5, g6]
def isCode : Jvm.Cond → Bool
  | .code _ _ _ _ => true
  | _ => false
theorem all_split {L : List Jvm.Cond} {P : Jvm.Cond → Bool} (h1 : L.all (fun c => isCode c || P c) = true) (h2 : ∀ c ∈ L.filter isCode, P c = true) : L.all P = true := by
  refine List.all_eq_true.mpr fun c hc => ?_
  have h := List.all_eq_true.mp h1 c hc
  rcases Bool.eq_false_or_eq_true (isCode c) with hi | hi
  · exact h2 c (List.mem_filter.mpr ⟨hc, hi⟩)
  · simpa [hi] using h
set_option maxRecDepth 65536 in
theorem w_c0 : (Jvm.Cond.code x code maxLocals ret).before args0 about1 = true := code_word (m := ⟨1, 1⟩) (meth := k1m1) (c := k1c1) (by decide +kernel) rfl rfl rfl (by decide +kernel)
set_option maxRecDepth 65536 in
theorem w_c1 : (Jvm.Cond.code ⟨"com/example/colophon/colophon/api/Html", "<init>", "()V"⟩ prog_5_method_1_code (1 : Nat) (Option.none : Option Jvm.ClassFile.FieldType)).before args0 about1 = true := code_word (m := ⟨2, 0⟩) (meth := k2m0) (c := k2c0) (by decide +kernel) rfl rfl rfl (by decide +kernel)
set_option maxRecDepth 65536 in
theorem w_c2 : (Jvm.Cond.code ⟨"java/lang/Object", "<init>", "()V"⟩ object_method_1_code (1 : Nat) (Option.none : Option Jvm.ClassFile.FieldType)).before args0 about1 = true := code_word (m := ⟨0, 0⟩) (meth := k0m0) (c := k0c0) (by decide +kernel) rfl rfl rfl (by decide +kernel)
set_option maxRecDepth 65536 in
theorem w_c3 : (Jvm.Cond.code ⟨"java/lang/StringBuilder", "<init>", "()V"⟩ jdk_67_method_1_code (1 : Nat) (Option.none : Option Jvm.ClassFile.FieldType)).before args0 about1 = true := code_word (m := ⟨8, 0⟩) (meth := k8m0) (c := k8c0) (by decide +kernel) rfl rfl rfl (by decide +kernel)
set_option maxRecDepth 65536 in
theorem w_c4 : (Jvm.Cond.code ⟨"java/lang/AbstractStringBuilder", "<init>", "(I)V"⟩ jdk_68_method_2_code (2 : Nat) (Option.none : Option Jvm.ClassFile.FieldType)).before args0 about1 = true := code_word (m := ⟨5, 1⟩) (meth := k5m1) (c := k5c1) (by decide +kernel) rfl rfl rfl (by decide +kernel)
set_option maxRecDepth 65536 in
theorem w_c5 : (Jvm.Cond.code ⟨"java/lang/String", "valueOf", "(C)Ljava/lang/String;"⟩ jdk_42_method_139_code (1 : Nat) (Option.some (Jvm.ClassFile.FieldType.object "java/lang/String"))).before args0 about1 = true := code_word (m := ⟨11, 5⟩) (meth := k11m5) (c := k11c5) (by decide +kernel) rfl rfl rfl (by decide +kernel)
set_option maxRecDepth 65536 in
theorem w_c6 : (Jvm.Cond.code ⟨"java/lang/StringLatin1", "canEncode", "(C)Z"⟩ jdk_43_method_3_code (1 : Nat) (Option.some Jvm.ClassFile.FieldType.boolean)).before args0 about1 = true := code_word (m := ⟨12, 1⟩) (meth := k12m1) (c := k12c1) (by decide +kernel) rfl rfl rfl (by decide +kernel)
set_option maxRecDepth 65536 in
theorem w_c7 : (Jvm.Cond.code ⟨"java/lang/StringLatin1", "toBytes", "(C)[B"⟩ jdk_43_method_46_code (1 : Nat) (Option.some (Jvm.ClassFile.FieldType.array Jvm.ClassFile.FieldType.byte))).before args0 about1 = true := code_word (m := ⟨12, 3⟩) (meth := k12m3) (c := k12c3) (by decide +kernel) rfl rfl rfl (by decide +kernel)
set_option maxRecDepth 65536 in
theorem w_c8 : (Jvm.Cond.code ⟨"java/lang/String", "<init>", "([BB)V"⟩ jdk_42_method_151_code (3 : Nat) (Option.none : Option Jvm.ClassFile.FieldType)).before args0 about1 = true := code_word (m := ⟨11, 9⟩) (meth := k11m9) (c := k11c9) (by decide +kernel) rfl rfl rfl (by decide +kernel)
set_option maxRecDepth 65536 in
theorem w_c9 : (Jvm.Cond.code ⟨"com/example/colophon/colophon/api/Html", "close", "(Ljava/lang/String;)Lcom/example/colophon/colophon/api/Html;"⟩ prog_5_method_3_code (2 : Nat) (Option.some (Jvm.ClassFile.FieldType.object "com/example/colophon/colophon/api/Html"))).before args0 about1 = true := code_word (m := ⟨2, 1⟩) (meth := k2m1) (c := k2c1) (by decide +kernel) rfl rfl rfl (by decide +kernel)
set_option maxRecDepth 65536 in
theorem w_c10 : (Jvm.Cond.code ⟨"java/lang/StringBuilder", "append", "(Ljava/lang/String;)Ljava/lang/StringBuilder;"⟩ jdk_67_method_7_code (2 : Nat) (Option.some (Jvm.ClassFile.FieldType.object "java/lang/StringBuilder"))).before args0 about1 = true := code_word (m := ⟨8, 1⟩) (meth := k8m1) (c := k8c1) (by decide +kernel) rfl rfl rfl (by decide +kernel)
set_option maxRecDepth 65536 in
theorem w_c11 : (Jvm.Cond.code ⟨"java/lang/AbstractStringBuilder", "append", "(Ljava/lang/String;)Ljava/lang/AbstractStringBuilder;"⟩ jdk_68_method_22_code (3 : Nat) (Option.some (Jvm.ClassFile.FieldType.object "java/lang/AbstractStringBuilder"))).before args0 about1 = true := code_word (m := ⟨5, 4⟩) (meth := k5m4) (c := k5c4) (by decide +kernel) rfl rfl rfl (by decide +kernel)
set_option maxRecDepth 65536 in
theorem w_c12 : (Jvm.Cond.code ⟨"java/lang/String", "length", "()I"⟩ jdk_42_method_54_code (1 : Nat) (Option.some Jvm.ClassFile.FieldType.int)).before args0 about1 = true := code_word (m := ⟨11, 3⟩) (meth := k11m3) (c := k11c3) (by decide +kernel) rfl rfl rfl (by decide +kernel)
set_option maxRecDepth 65536 in
theorem w_c13 : (Jvm.Cond.code ⟨"java/lang/String", "coder", "()B"⟩ jdk_42_method_152_code (1 : Nat) (Option.some Jvm.ClassFile.FieldType.byte)).before args0 about1 = true := code_word (m := ⟨11, 10⟩) (meth := k11m10) (c := k11c10) (by decide +kernel) rfl rfl rfl (by decide +kernel)
set_option maxRecDepth 65536 in
theorem w_c14 : (Jvm.Cond.code ⟨"java/lang/AbstractStringBuilder", "ensureCapacityInternal", "(I)V"⟩ jdk_68_method_9_code (3 : Nat) (Option.none : Option Jvm.ClassFile.FieldType)).before args0 about1 = true := code_word (m := ⟨5, 3⟩) (meth := k5m3) (c := k5c3) (by decide +kernel) rfl rfl rfl (by decide +kernel)
set_option maxRecDepth 65536 in
theorem w_c15 : (Jvm.Cond.code ⟨"java/lang/AbstractStringBuilder", "putStringAt", "(ILjava/lang/String;)V"⟩ jdk_68_method_73_code (3 : Nat) (Option.none : Option Jvm.ClassFile.FieldType)).before args0 about1 = true := code_word (m := ⟨5, 14⟩) (meth := k5m14) (c := k5c14) (by decide +kernel) rfl rfl rfl (by decide +kernel)
set_option maxRecDepth 65536 in
theorem w_c16 : (Jvm.Cond.code ⟨"java/lang/AbstractStringBuilder", "inflateIfNeededFor", "(Ljava/lang/String;)V"⟩ jdk_68_method_71_code (2 : Nat) (Option.none : Option Jvm.ClassFile.FieldType)).before args0 about1 = true := code_word (m := ⟨5, 12⟩) (meth := k5m12) (c := k5c12) (by decide +kernel) rfl rfl rfl (by decide +kernel)
set_option maxRecDepth 65536 in
theorem w_c17 : (Jvm.Cond.code ⟨"java/lang/String", "getBytes", "([BIB)V"⟩ jdk_42_method_147_code (4 : Nat) (Option.none : Option Jvm.ClassFile.FieldType)).before args0 about1 = true := code_word (m := ⟨11, 6⟩) (meth := k11m6) (c := k11c6) (by decide +kernel) rfl rfl rfl (by decide +kernel)
set_option maxRecDepth 65536 in
theorem w_c18 : (Jvm.Cond.code ⟨"java/lang/StringBuilder", "append", "(C)Ljava/lang/StringBuilder;"⟩ jdk_67_method_14_code (2 : Nat) (Option.some (Jvm.ClassFile.FieldType.object "java/lang/StringBuilder"))).before args0 about1 = true := code_word (m := ⟨8, 3⟩) (meth := k8m3) (c := k8c3) (by decide +kernel) rfl rfl rfl (by decide +kernel)
set_option maxRecDepth 65536 in
theorem w_c19 : (Jvm.Cond.code ⟨"java/lang/AbstractStringBuilder", "append", "(C)Ljava/lang/AbstractStringBuilder;"⟩ jdk_68_method_31_code (2 : Nat) (Option.some (Jvm.ClassFile.FieldType.object "java/lang/AbstractStringBuilder"))).before args0 about1 = true := code_word (m := ⟨5, 7⟩) (meth := k5m7) (c := k5c7) (by decide +kernel) rfl rfl rfl (by decide +kernel)
set_option maxRecDepth 65536 in
theorem w_c20 : (Jvm.Cond.code ⟨"java/lang/AbstractStringBuilder", "isLatin1", "()Z"⟩ jdk_68_method_68_code (1 : Nat) (Option.some Jvm.ClassFile.FieldType.boolean)).before args0 about1 = true := code_word (m := ⟨5, 11⟩) (meth := k5m11) (c := k5c11) (by decide +kernel) rfl rfl rfl (by decide +kernel)
set_option maxRecDepth 65536 in
theorem w_c21 : (Jvm.Cond.code ⟨"com/example/colophon/colophon/api/Html", "append", "(Lcom/example/colophon/colophon/api/Html;)Lcom/example/colophon/colophon/api/Html;"⟩ prog_5_method_7_code (2 : Nat) (Option.some (Jvm.ClassFile.FieldType.object "com/example/colophon/colophon/api/Html"))).before args0 about1 = true := code_word (m := ⟨2, 2⟩) (meth := k2m2) (c := k2c2) (by decide +kernel) rfl rfl rfl (by decide +kernel)
set_option maxRecDepth 65536 in
theorem w_c22 : (Jvm.Cond.code ⟨"java/lang/StringBuilder", "append", "(Ljava/lang/CharSequence;)Ljava/lang/StringBuilder;"⟩ jdk_67_method_9_code (2 : Nat) (Option.some (Jvm.ClassFile.FieldType.object "java/lang/StringBuilder"))).before args0 about1 = true := code_word (m := ⟨8, 2⟩) (meth := k8m2) (c := k8c2) (by decide +kernel) rfl rfl rfl (by decide +kernel)
set_option maxRecDepth 65536 in
theorem w_c23 : (Jvm.Cond.code ⟨"java/lang/AbstractStringBuilder", "append", "(Ljava/lang/CharSequence;)Ljava/lang/AbstractStringBuilder;"⟩ jdk_68_method_25_code (2 : Nat) (Option.some (Jvm.ClassFile.FieldType.object "java/lang/AbstractStringBuilder"))).before args0 about1 = true := code_word (m := ⟨5, 6⟩) (meth := k5m6) (c := k5c6) (by decide +kernel) rfl rfl rfl (by decide +kernel)
set_option maxRecDepth 65536 in
theorem w_c24 : (Jvm.Cond.code ⟨"java/lang/AbstractStringBuilder", "append", "(Ljava/lang/AbstractStringBuilder;)Ljava/lang/AbstractStringBuilder;"⟩ jdk_68_method_24_code (3 : Nat) (Option.some (Jvm.ClassFile.FieldType.object "java/lang/AbstractStringBuilder"))).before args0 about1 = true := code_word (m := ⟨5, 5⟩) (meth := k5m5) (c := k5c5) (by decide +kernel) rfl rfl rfl (by decide +kernel)
set_option maxRecDepth 65536 in
theorem w_c25 : (Jvm.Cond.code ⟨"java/lang/StringBuilder", "length", "()I"⟩ jdk_67_method_93_code (1 : Nat) (Option.some Jvm.ClassFile.FieldType.int)).before args0 about1 = true := code_word (m := ⟨8, 5⟩) (meth := k8m5) (c := k8c5) (by decide +kernel) rfl rfl rfl (by decide +kernel)
set_option maxRecDepth 65536 in
theorem w_c26 : (Jvm.Cond.code ⟨"java/lang/AbstractStringBuilder", "length", "()I"⟩ jdk_68_method_6_code (1 : Nat) (Option.some Jvm.ClassFile.FieldType.int)).before args0 about1 = true := code_word (m := ⟨5, 2⟩) (meth := k5m2) (c := k5c2) (by decide +kernel) rfl rfl rfl (by decide +kernel)
set_option maxRecDepth 65536 in
theorem w_c27 : (Jvm.Cond.code ⟨"java/lang/AbstractStringBuilder", "inflateIfNeededFor", "(Ljava/lang/AbstractStringBuilder;)V"⟩ jdk_68_method_72_code (2 : Nat) (Option.none : Option Jvm.ClassFile.FieldType)).before args0 about1 = true := code_word (m := ⟨5, 13⟩) (meth := k5m13) (c := k5c13) (by decide +kernel) rfl rfl rfl (by decide +kernel)
set_option maxRecDepth 65536 in
theorem w_c28 : (Jvm.Cond.code ⟨"java/lang/AbstractStringBuilder", "getCoder", "()B"⟩ jdk_68_method_67_code (1 : Nat) (Option.some Jvm.ClassFile.FieldType.byte)).before args0 about1 = true := code_word (m := ⟨5, 10⟩) (meth := k5m10) (c := k5c10) (by decide +kernel) rfl rfl rfl (by decide +kernel)
set_option maxRecDepth 65536 in
theorem w_c29 : (Jvm.Cond.code ⟨"java/lang/AbstractStringBuilder", "getBytes", "([BIB)V"⟩ jdk_68_method_65_code (4 : Nat) (Option.none : Option Jvm.ClassFile.FieldType)).before args0 about1 = true := code_word (m := ⟨5, 9⟩) (meth := k5m9) (c := k5c9) (by decide +kernel) rfl rfl rfl (by decide +kernel)
set_option maxRecDepth 65536 in
theorem w_c30 : (Jvm.Cond.code ⟨"com/example/colophon/colophon/api/HtmlAppendPinLaw", "put", "([CIC)V"⟩ method_3_code (3 : Nat) (Option.none : Option Jvm.ClassFile.FieldType)).before args0 about1 = true := code_word (m := ⟨1, 2⟩) (meth := k1m2) (c := k1c2) (by decide +kernel) rfl rfl rfl (by decide +kernel)
set_option maxRecDepth 65536 in
theorem w_c31 : (Jvm.Cond.code ⟨"com/example/colophon/colophon/api/Html", "toString", "()Ljava/lang/String;"⟩ prog_5_method_8_code (1 : Nat) (Option.some (Jvm.ClassFile.FieldType.object "java/lang/String"))).before args0 about1 = true := code_word (m := ⟨2, 3⟩) (meth := k2m3) (c := k2c3) (by decide +kernel) rfl rfl rfl (by decide +kernel)
set_option maxRecDepth 65536 in
theorem w_c32 : (Jvm.Cond.code ⟨"java/lang/StringBuilder", "toString", "()Ljava/lang/String;"⟩ jdk_67_method_42_code (1 : Nat) (Option.some (Jvm.ClassFile.FieldType.object "java/lang/String"))).before args0 about1 = true := code_word (m := ⟨8, 4⟩) (meth := k8m4) (c := k8c4) (by decide +kernel) rfl rfl rfl (by decide +kernel)
set_option maxRecDepth 65536 in
theorem w_c33 : (Jvm.Cond.code ⟨"java/lang/String", "<init>", "(Ljava/lang/StringBuilder;)V"⟩ jdk_42_method_53_code (2 : Nat) (Option.none : Option Jvm.ClassFile.FieldType)).before args0 about1 = true := code_word (m := ⟨11, 2⟩) (meth := k11m2) (c := k11c2) (by decide +kernel) rfl rfl rfl (by decide +kernel)
set_option maxRecDepth 65536 in
theorem w_c34 : (Jvm.Cond.code ⟨"java/lang/String", "<init>", "(Ljava/lang/AbstractStringBuilder;Ljava/lang/Void;)V"⟩ jdk_42_method_150_code (5 : Nat) (Option.none : Option Jvm.ClassFile.FieldType)).before args0 about1 = true := code_word (m := ⟨11, 8⟩) (meth := k11m8) (c := k11c8) (by decide +kernel) rfl rfl rfl (by decide +kernel)
set_option maxRecDepth 65536 in
theorem w_c35 : (Jvm.Cond.code ⟨"java/lang/AbstractStringBuilder", "getValue", "()[B"⟩ jdk_68_method_64_code (1 : Nat) (Option.some (Jvm.ClassFile.FieldType.array Jvm.ClassFile.FieldType.byte))).before args0 about1 = true := code_word (m := ⟨5, 8⟩) (meth := k5m8) (c := k5c8) (by decide +kernel) rfl rfl rfl (by decide +kernel)
set_option maxRecDepth 65536 in
theorem w_c36 : (Jvm.Cond.code ⟨"java/util/Arrays", "copyOfRange", "([BII)[B"⟩ jdk_65_method_132_code (3 : Nat) (Option.some (Jvm.ClassFile.FieldType.array Jvm.ClassFile.FieldType.byte))).before args0 about1 = true := code_word (m := ⟨14, 2⟩) (meth := k14m2) (c := k14c2) (by decide +kernel) rfl rfl rfl (by decide +kernel)
set_option maxRecDepth 65536 in
theorem w_c37 : (Jvm.Cond.code ⟨"java/util/Arrays", "copyOfRangeByte", "([BII)[B"⟩ jdk_65_method_133_code (5 : Nat) (Option.some (Jvm.ClassFile.FieldType.array Jvm.ClassFile.FieldType.byte))).before args0 about1 = true := code_word (m := ⟨14, 3⟩) (meth := k14m3) (c := k14c3) (by decide +kernel) rfl rfl rfl (by decide +kernel)
set_option maxRecDepth 65536 in
theorem w_c38 : (Jvm.Cond.code ⟨"java/util/Arrays", "checkLength", "(II)V"⟩ jdk_65_method_131_code (2 : Nat) (Option.none : Option Jvm.ClassFile.FieldType)).before args0 about1 = true := code_word (m := ⟨14, 1⟩) (meth := k14m1) (c := k14c1) (by decide +kernel) rfl rfl rfl (by decide +kernel)
set_option maxRecDepth 65536 in
theorem w_c39 : (Jvm.Cond.code ⟨"java/lang/Math", "min", "(II)I"⟩ jdk_29_method_69_code (2 : Nat) (Option.some Jvm.ClassFile.FieldType.int)).before args0 about1 = true := code_word (m := ⟨15, 1⟩) (meth := k15m1) (c := k15c1) (by decide +kernel) rfl rfl rfl (by decide +kernel)
set_option maxRecDepth 65536 in
theorem w_c40 : (Jvm.Cond.code ⟨"java/lang/String", "<init>", "([C)V"⟩ jdk_42_method_3_code (2 : Nat) (Option.none : Option Jvm.ClassFile.FieldType)).before args0 about1 = true := code_word (m := ⟨11, 1⟩) (meth := k11m1) (c := k11c1) (by decide +kernel) rfl rfl rfl (by decide +kernel)
set_option maxRecDepth 65536 in
theorem w_c41 : (Jvm.Cond.code ⟨"java/lang/String", "<init>", "([CIILjava/lang/Void;)V"⟩ jdk_42_method_149_code (6 : Nat) (Option.none : Option Jvm.ClassFile.FieldType)).before args0 about1 = true := code_word (m := ⟨11, 7⟩) (meth := k11m7) (c := k11c7) (by decide +kernel) rfl rfl rfl (by decide +kernel)
set_option maxRecDepth 65536 in
theorem w_c42 : (Jvm.Cond.code ⟨"java/lang/StringUTF16", "compress", "([CII)[B"⟩ jdk_52_method_16_code (6 : Nat) (Option.some (Jvm.ClassFile.FieldType.array Jvm.ClassFile.FieldType.byte))).before args0 about1 = true := code_word (m := ⟨16, 2⟩) (meth := k16m2) (c := k16c2) (by decide +kernel) rfl rfl rfl (by decide +kernel)
set_option maxRecDepth 65536 in
theorem w_c43 : (Jvm.Cond.code ⟨"java/lang/StringUTF16", "compress", "([CI[BII)I"⟩ jdk_52_method_21_code (7 : Nat) (Option.some Jvm.ClassFile.FieldType.int)).before args0 about1 = true := code_word (m := ⟨16, 3⟩) (meth := k16m3) (c := k16c3) (by decide +kernel) rfl rfl rfl (by decide +kernel)
set_option maxRecDepth 65536 in
theorem w_c44 : (Jvm.Cond.code ⟨"java/lang/StringUTF16", "coderFromArrayLen", "([BI)B"⟩ jdk_52_method_15_code (2 : Nat) (Option.some Jvm.ClassFile.FieldType.byte)).before args0 about1 = true := code_word (m := ⟨16, 1⟩) (meth := k16m1) (c := k16c1) (by decide +kernel) rfl rfl rfl (by decide +kernel)
set_option maxRecDepth 65536 in
theorem w_c45 : (Jvm.Cond.code ⟨"java/lang/String", "equals", "(Ljava/lang/Object;)Z"⟩ jdk_42_method_66_code (3 : Nat) (Option.some Jvm.ClassFile.FieldType.boolean)).before args0 about1 = true := code_word (m := ⟨11, 4⟩) (meth := k11m4) (c := k11c4) (by decide +kernel) rfl rfl rfl (by decide +kernel)
set_option maxRecDepth 65536 in
theorem w_c46 : (Jvm.Cond.code ⟨"java/lang/StringLatin1", "equals", "([B[B)Z"⟩ jdk_43_method_13_code (3 : Nat) (Option.some Jvm.ClassFile.FieldType.boolean)).before args0 about1 = true := code_word (m := ⟨12, 2⟩) (meth := k12m2) (c := k12c2) (by decide +kernel) rfl rfl rfl (by decide +kernel)
def codes1 : List Jvm.Cond := [Jvm.Cond.code x code maxLocals ret, Jvm.Cond.code ⟨"com/example/colophon/colophon/api/Html", "<init>", "()V"⟩ prog_5_method_1_code (1 : Nat) (Option.none : Option Jvm.ClassFile.FieldType), Jvm.Cond.code ⟨"java/lang/Object", "<init>", "()V"⟩ object_method_1_code (1 : Nat) (Option.none : Option Jvm.ClassFile.FieldType), Jvm.Cond.code ⟨"java/lang/StringBuilder", "<init>", "()V"⟩ jdk_67_method_1_code (1 : Nat) (Option.none : Option Jvm.ClassFile.FieldType), Jvm.Cond.code ⟨"java/lang/AbstractStringBuilder", "<init>", "(I)V"⟩ jdk_68_method_2_code (2 : Nat) (Option.none : Option Jvm.ClassFile.FieldType), Jvm.Cond.code ⟨"java/lang/String", "valueOf", "(C)Ljava/lang/String;"⟩ jdk_42_method_139_code (1 : Nat) (Option.some (Jvm.ClassFile.FieldType.object "java/lang/String")), Jvm.Cond.code ⟨"java/lang/StringLatin1", "canEncode", "(C)Z"⟩ jdk_43_method_3_code (1 : Nat) (Option.some Jvm.ClassFile.FieldType.boolean), Jvm.Cond.code ⟨"java/lang/StringLatin1", "toBytes", "(C)[B"⟩ jdk_43_method_46_code (1 : Nat) (Option.some (Jvm.ClassFile.FieldType.array Jvm.ClassFile.FieldType.byte)), Jvm.Cond.code ⟨"java/lang/String", "<init>", "([BB)V"⟩ jdk_42_method_151_code (3 : Nat) (Option.none : Option Jvm.ClassFile.FieldType), Jvm.Cond.code ⟨"com/example/colophon/colophon/api/Html", "close", "(Ljava/lang/String;)Lcom/example/colophon/colophon/api/Html;"⟩ prog_5_method_3_code (2 : Nat) (Option.some (Jvm.ClassFile.FieldType.object "com/example/colophon/colophon/api/Html")), Jvm.Cond.code ⟨"java/lang/StringBuilder", "append", "(Ljava/lang/String;)Ljava/lang/StringBuilder;"⟩ jdk_67_method_7_code (2 : Nat) (Option.some (Jvm.ClassFile.FieldType.object "java/lang/StringBuilder")), Jvm.Cond.code ⟨"java/lang/AbstractStringBuilder", "append", "(Ljava/lang/String;)Ljava/lang/AbstractStringBuilder;"⟩ jdk_68_method_22_code (3 : Nat) (Option.some (Jvm.ClassFile.FieldType.object "java/lang/AbstractStringBuilder")), Jvm.Cond.code ⟨"java/lang/String", "length", "()I"⟩ jdk_42_method_54_code (1 : Nat) (Option.some Jvm.ClassFile.FieldType.int), Jvm.Cond.code ⟨"java/lang/String", "coder", "()B"⟩ jdk_42_method_152_code (1 : Nat) (Option.some Jvm.ClassFile.FieldType.byte), Jvm.Cond.code ⟨"java/lang/AbstractStringBuilder", "ensureCapacityInternal", "(I)V"⟩ jdk_68_method_9_code (3 : Nat) (Option.none : Option Jvm.ClassFile.FieldType), Jvm.Cond.code ⟨"java/lang/AbstractStringBuilder", "putStringAt", "(ILjava/lang/String;)V"⟩ jdk_68_method_73_code (3 : Nat) (Option.none : Option Jvm.ClassFile.FieldType), Jvm.Cond.code ⟨"java/lang/AbstractStringBuilder", "inflateIfNeededFor", "(Ljava/lang/String;)V"⟩ jdk_68_method_71_code (2 : Nat) (Option.none : Option Jvm.ClassFile.FieldType), Jvm.Cond.code ⟨"java/lang/String", "getBytes", "([BIB)V"⟩ jdk_42_method_147_code (4 : Nat) (Option.none : Option Jvm.ClassFile.FieldType), Jvm.Cond.code ⟨"java/lang/StringBuilder", "append", "(C)Ljava/lang/StringBuilder;"⟩ jdk_67_method_14_code (2 : Nat) (Option.some (Jvm.ClassFile.FieldType.object "java/lang/StringBuilder")), Jvm.Cond.code ⟨"java/lang/AbstractStringBuilder", "append", "(C)Ljava/lang/AbstractStringBuilder;"⟩ jdk_68_method_31_code (2 : Nat) (Option.some (Jvm.ClassFile.FieldType.object "java/lang/AbstractStringBuilder")), Jvm.Cond.code ⟨"java/lang/AbstractStringBuilder", "isLatin1", "()Z"⟩ jdk_68_method_68_code (1 : Nat) (Option.some Jvm.ClassFile.FieldType.boolean), Jvm.Cond.code ⟨"com/example/colophon/colophon/api/Html", "append", "(Lcom/example/colophon/colophon/api/Html;)Lcom/example/colophon/colophon/api/Html;"⟩ prog_5_method_7_code (2 : Nat) (Option.some (Jvm.ClassFile.FieldType.object "com/example/colophon/colophon/api/Html")), Jvm.Cond.code ⟨"java/lang/StringBuilder", "append", "(Ljava/lang/CharSequence;)Ljava/lang/StringBuilder;"⟩ jdk_67_method_9_code (2 : Nat) (Option.some (Jvm.ClassFile.FieldType.object "java/lang/StringBuilder")), Jvm.Cond.code ⟨"java/lang/AbstractStringBuilder", "append", "(Ljava/lang/CharSequence;)Ljava/lang/AbstractStringBuilder;"⟩ jdk_68_method_25_code (2 : Nat) (Option.some (Jvm.ClassFile.FieldType.object "java/lang/AbstractStringBuilder")), Jvm.Cond.code ⟨"java/lang/AbstractStringBuilder", "append", "(Ljava/lang/AbstractStringBuilder;)Ljava/lang/AbstractStringBuilder;"⟩ jdk_68_method_24_code (3 : Nat) (Option.some (Jvm.ClassFile.FieldType.object "java/lang/AbstractStringBuilder")), Jvm.Cond.code ⟨"java/lang/StringBuilder", "length", "()I"⟩ jdk_67_method_93_code (1 : Nat) (Option.some Jvm.ClassFile.FieldType.int), Jvm.Cond.code ⟨"java/lang/AbstractStringBuilder", "length", "()I"⟩ jdk_68_method_6_code (1 : Nat) (Option.some Jvm.ClassFile.FieldType.int), Jvm.Cond.code ⟨"java/lang/AbstractStringBuilder", "inflateIfNeededFor", "(Ljava/lang/AbstractStringBuilder;)V"⟩ jdk_68_method_72_code (2 : Nat) (Option.none : Option Jvm.ClassFile.FieldType), Jvm.Cond.code ⟨"java/lang/AbstractStringBuilder", "getCoder", "()B"⟩ jdk_68_method_67_code (1 : Nat) (Option.some Jvm.ClassFile.FieldType.byte), Jvm.Cond.code ⟨"java/lang/AbstractStringBuilder", "getBytes", "([BIB)V"⟩ jdk_68_method_65_code (4 : Nat) (Option.none : Option Jvm.ClassFile.FieldType), Jvm.Cond.code ⟨"com/example/colophon/colophon/api/HtmlAppendPinLaw", "put", "([CIC)V"⟩ method_3_code (3 : Nat) (Option.none : Option Jvm.ClassFile.FieldType), Jvm.Cond.code ⟨"com/example/colophon/colophon/api/Html", "toString", "()Ljava/lang/String;"⟩ prog_5_method_8_code (1 : Nat) (Option.some (Jvm.ClassFile.FieldType.object "java/lang/String")), Jvm.Cond.code ⟨"java/lang/StringBuilder", "toString", "()Ljava/lang/String;"⟩ jdk_67_method_42_code (1 : Nat) (Option.some (Jvm.ClassFile.FieldType.object "java/lang/String")), Jvm.Cond.code ⟨"java/lang/String", "<init>", "(Ljava/lang/StringBuilder;)V"⟩ jdk_42_method_53_code (2 : Nat) (Option.none : Option Jvm.ClassFile.FieldType), Jvm.Cond.code ⟨"java/lang/String", "<init>", "(Ljava/lang/AbstractStringBuilder;Ljava/lang/Void;)V"⟩ jdk_42_method_150_code (5 : Nat) (Option.none : Option Jvm.ClassFile.FieldType), Jvm.Cond.code ⟨"java/lang/AbstractStringBuilder", "getValue", "()[B"⟩ jdk_68_method_64_code (1 : Nat) (Option.some (Jvm.ClassFile.FieldType.array Jvm.ClassFile.FieldType.byte)), Jvm.Cond.code ⟨"java/util/Arrays", "copyOfRange", "([BII)[B"⟩ jdk_65_method_132_code (3 : Nat) (Option.some (Jvm.ClassFile.FieldType.array Jvm.ClassFile.FieldType.byte)), Jvm.Cond.code ⟨"java/util/Arrays", "copyOfRangeByte", "([BII)[B"⟩ jdk_65_method_133_code (5 : Nat) (Option.some (Jvm.ClassFile.FieldType.array Jvm.ClassFile.FieldType.byte)), Jvm.Cond.code ⟨"java/util/Arrays", "checkLength", "(II)V"⟩ jdk_65_method_131_code (2 : Nat) (Option.none : Option Jvm.ClassFile.FieldType), Jvm.Cond.code ⟨"java/lang/Math", "min", "(II)I"⟩ jdk_29_method_69_code (2 : Nat) (Option.some Jvm.ClassFile.FieldType.int), Jvm.Cond.code ⟨"java/lang/String", "<init>", "([C)V"⟩ jdk_42_method_3_code (2 : Nat) (Option.none : Option Jvm.ClassFile.FieldType), Jvm.Cond.code ⟨"java/lang/String", "<init>", "([CIILjava/lang/Void;)V"⟩ jdk_42_method_149_code (6 : Nat) (Option.none : Option Jvm.ClassFile.FieldType), Jvm.Cond.code ⟨"java/lang/StringUTF16", "compress", "([CII)[B"⟩ jdk_52_method_16_code (6 : Nat) (Option.some (Jvm.ClassFile.FieldType.array Jvm.ClassFile.FieldType.byte)), Jvm.Cond.code ⟨"java/lang/StringUTF16", "compress", "([CI[BII)I"⟩ jdk_52_method_21_code (7 : Nat) (Option.some Jvm.ClassFile.FieldType.int), Jvm.Cond.code ⟨"java/lang/StringUTF16", "coderFromArrayLen", "([BI)B"⟩ jdk_52_method_15_code (2 : Nat) (Option.some Jvm.ClassFile.FieldType.byte), Jvm.Cond.code ⟨"java/lang/String", "equals", "(Ljava/lang/Object;)Z"⟩ jdk_42_method_66_code (3 : Nat) (Option.some Jvm.ClassFile.FieldType.boolean), Jvm.Cond.code ⟨"java/lang/StringLatin1", "equals", "([B[B)Z"⟩ jdk_43_method_13_code (3 : Nat) (Option.some Jvm.ClassFile.FieldType.boolean)]
set_option maxRecDepth 65536 in
theorem codes_eq : words1.filter isCode = codes1 := rfl
theorem w_codes : ∀ c ∈ words1.filter isCode, c.before args0 about1 = true := by
  rw [codes_eq]
  intro c hc
  simp only [codes1, List.mem_cons, List.not_mem_nil, or_false] at hc
  rcases hc with rfl | rfl | rfl | rfl | rfl | rfl | rfl | rfl | rfl | rfl | rfl | rfl | rfl | rfl | rfl | rfl | rfl | rfl | rfl | rfl | rfl | rfl | rfl | rfl | rfl | rfl | rfl | rfl | rfl | rfl | rfl | rfl | rfl | rfl | rfl | rfl | rfl | rfl | rfl | rfl | rfl | rfl | rfl | rfl | rfl | rfl | rfl
  · exact w_c0
  · exact w_c1
  · exact w_c2
  · exact w_c3
  · exact w_c4
  · exact w_c5
  · exact w_c6
  · exact w_c7
  · exact w_c8
  · exact w_c9
  · exact w_c10
  · exact w_c11
  · exact w_c12
  · exact w_c13
  · exact w_c14
  · exact w_c15
  · exact w_c16
  · exact w_c17
  · exact w_c18
  · exact w_c19
  · exact w_c20
  · exact w_c21
  · exact w_c22
  · exact w_c23
  · exact w_c24
  · exact w_c25
  · exact w_c26
  · exact w_c27
  · exact w_c28
  · exact w_c29
  · exact w_c30
  · exact w_c31
  · exact w_c32
  · exact w_c33
  · exact w_c34
  · exact w_c35
  · exact w_c36
  · exact w_c37
  · exact w_c38
  · exact w_c39
  · exact w_c40
  · exact w_c41
  · exact w_c42
  · exact w_c43
  · exact w_c44
  · exact w_c45
  · exact w_c46
set_option maxRecDepth 65536 in
theorem w_t1 : (words1.take 24).all (fun c => isCode c || c.before args0 about1) = true := by decide +kernel
set_option maxRecDepth 65536 in
theorem w_t2 : ((words1.drop 24).take 24).all (fun c => isCode c || c.before args0 about1) = true := by decide +kernel
set_option maxRecDepth 65536 in
theorem w_t3 : (((words1.drop 24).drop 24).take 24).all (fun c => isCode c || c.before args0 about1) = true := by decide +kernel
set_option maxRecDepth 65536 in
theorem w_t4 : ((((words1.drop 24).drop 24).drop 24).take 24).all (fun c => isCode c || c.before args0 about1) = true := by decide +kernel
set_option maxRecDepth 65536 in
theorem w_t5 : (((((words1.drop 24).drop 24).drop 24).drop 24).take 24).all (fun c => isCode c || c.before args0 about1) = true := by decide +kernel
set_option maxRecDepth 65536 in
theorem w_t6 : ((((((words1.drop 24).drop 24).drop 24).drop 24).drop 24).take 24).all (fun c => isCode c || c.before args0 about1) = true := by decide +kernel
set_option maxRecDepth 65536 in
theorem w_t7 : (((((((words1.drop 24).drop 24).drop 24).drop 24).drop 24).drop 24).take 24).all (fun c => isCode c || c.before args0 about1) = true := by decide +kernel
set_option maxRecDepth 65536 in
theorem w_t8 : ((((((((words1.drop 24).drop 24).drop 24).drop 24).drop 24).drop 24).drop 24).take 24).all (fun c => isCode c || c.before args0 about1) = true := by decide +kernel
set_option maxRecDepth 65536 in
theorem w_t9 : (((((((((words1.drop 24).drop 24).drop 24).drop 24).drop 24).drop 24).drop 24).drop 24).take 24).all (fun c => isCode c || c.before args0 about1) = true := by decide +kernel
set_option maxRecDepth 65536 in
theorem w_t10 : ((((((((((words1.drop 24).drop 24).drop 24).drop 24).drop 24).drop 24).drop 24).drop 24).drop 24).take 24).all (fun c => isCode c || c.before args0 about1) = true := by decide +kernel
set_option maxRecDepth 65536 in
theorem w_t11 : ((((((((((words1.drop 24).drop 24).drop 24).drop 24).drop 24).drop 24).drop 24).drop 24).drop 24).drop 24).all (fun c => isCode c || c.before args0 about1) = true := by decide +kernel
theorem w_tables : (allAtoms (Jvm.Cond.code x code maxLocals ret :: tables_1)).before args0 about1 = true := by
  rw [allAtoms_all]
  show words1.all (fun c => c.before args0 about1) = true
  refine all_split ?_ w_codes
  rw [← List.take_append_drop 24 words1, List.all_append, w_t1, ← List.take_append_drop 24 (words1.drop 24), List.all_append, w_t2, ← List.take_append_drop 24 ((words1.drop 24).drop 24), List.all_append, w_t3, ← List.take_append_drop 24 (((words1.drop 24).drop 24).drop 24), List.all_append, w_t4, ← List.take_append_drop 24 ((((words1.drop 24).drop 24).drop 24).drop 24), List.all_append, w_t5, ← List.take_append_drop 24 (((((words1.drop 24).drop 24).drop 24).drop 24).drop 24), List.all_append, w_t6, ← List.take_append_drop 24 ((((((words1.drop 24).drop 24).drop 24).drop 24).drop 24).drop 24), List.all_append, w_t7, ← List.take_append_drop 24 (((((((words1.drop 24).drop 24).drop 24).drop 24).drop 24).drop 24).drop 24), List.all_append, w_t8, ← List.take_append_drop 24 ((((((((words1.drop 24).drop 24).drop 24).drop 24).drop 24).drop 24).drop 24).drop 24), List.all_append, w_t9, ← List.take_append_drop 24 (((((((((words1.drop 24).drop 24).drop 24).drop 24).drop 24).drop 24).drop 24).drop 24).drop 24), List.all_append, w_t10, w_t11]
  rfl
set_option maxRecDepth 65536 in
theorem w_rest : rest_1_c.before args0 about1 = true := by decide +kernel
set_option maxRecDepth 65536 in
theorem w_case : (Jvm.Cond.and given_1 narrow_1).before args0 about1 = true := by decide +kernel
set_option maxRecDepth 65536 in
theorem w_consts : constsHeld consts_1 about1 := Jvm.Lit.constsHeldB_iff.mp (by decide +kernel)
theorem w_applies : (headSpec (Jvm.Cond.code x code maxLocals ret :: tables_1) room_1).applies x e0.platform about1 = true :=
  (Spec.applies_iff w_frames).mpr ⟨w_running, w_runnable, w_alone, w_named, w_hears, w_ripe, w_room, w_tables⟩
theorem atStart : AtStart classFile x code maxLocals ret World_1 tables_1 room_1 Calls_1 rest_1 Pre_1 launch0 p0 e0 about1 theMethod args0 below0 :=
  ⟨lists_1, trivial, launch0.admits_env _ _ _, launch0.least_env, fairChoices_fair.cas, fairChoices_fair.clock, w_frames, w_args, w_heap, w_applies, ⟨w_consts, trivial⟩, w_rest, w_case⟩
end start1
theorem witness_1 : WitnessClaimed_1 := ⟨start1.p0, start1.e0, start1.about1, start1.theMethod, start1.args0, start1.below0, start1.atStart⟩
end Jvm.Pilot.@@N@@
