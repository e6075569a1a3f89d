import JvmDerived
import JvmDerived.Pilot.@@N@@Statement
import JvmDerived.Pilot.@@N@@Code
set_option linter.unusedVariables false
set_option linter.unusedSimpArgs false
/- laws to paste: Road.backV (cut by pick.py; bodies as the Statement names them) -/
namespace Jvm.Pilot.@@N@@
namespace StrChars
open Jvm Sem ClassFile Op Lib Jvm.Stand Jvm.Free.XT Jvm.Free.ALB Jvm.Free.JM Jvm.Free
open Jvm.Lib.Cold (StaticIs)
/-- a char array whose places are chars -/
def Ch (a : Addr) (A : Cell) (U : State) : Prop := Arr .char a A U ∧ Typed .char A
theorem Ch.mv {a : Addr} {A : Cell} {U U' : State} (h : Ch a A U) (hal : U.vm.Alike U'.vm) (hh : U'.heap = U.heap) : Ch a A U' := ⟨h.1.mv hal hh, h.2⟩
theorem Ch.keep {a : Addr} {A : Cell} {U U' : State} (h : Ch a A U) (hal : U.vm.Alike U'.vm) (hk : U'.heap[a]? = some A) : Ch a A U' := ⟨h.1.keep hal hk, h.2⟩
/-- what place i of a char[]'s cell holds -/
def cv (A : Cell) (i : Nat) : Int32 := match A.slots[i]? with | some (.int x) => x | _ => 0
theorem Ch.get {a : Addr} {A : Cell} {U : State} (h : Ch a A U) {i : Nat} (hi : i < A.slots.size) : A.slots[i]? = some (.int (cv A i)) := by
  have e := Array.getElem?_eq_getElem hi
  have f := h.2 i _ e
  unfold cv; rw [e]
  generalize A.slots[i] = v at f
  cases v <;> simp [fits] at f ⊢
/-- the byte that i2b leaves of a char -/
def lo8 (x : Int32) : Int32 := x.toInt8.toInt32
theorem fits_lo8 (y : Int32) : fits .byte (.int (lo8 y)) = true := by
  have h1 := y.toInt8.le_toInt
  have h2 := y.toInt8.toInt_lt
  simp only [lo8, fits, Bool.and_eq_true, decide_eq_true_eq, Int32.le_iff_toInt_le, Int8.toInt_toInt32, show (-128 : Int32).toInt = -128 from by decide, show (127 : Int32).toInt = 127 from by decide]
  omega
/-- A' is A but that each place j of lo .. hi - 1 holds f j -/
def Laid (A A' : Cell) (lo hi : Nat) (f : Nat → Value) : Prop := A'.cls = A.cls ∧ A'.vm = A.vm ∧ A'.slots.size = A.slots.size ∧ ∀ i, A'.slots[i]? = if lo ≤ i ∧ i < hi then some (f i) else A.slots[i]?
theorem Laid.zero (A : Cell) (lo : Nat) (f : Nat → Value) : Laid A A lo (lo + 0) f := ⟨rfl, rfl, rfl, fun i => by rw [if_neg (by omega)]⟩
theorem Laid.step {A Ak : Cell} {lo k : Nat} {f : Nat → Value} {v : Value} (h : Laid A Ak lo k f) (hlo : lo ≤ k) (hk : k < Ak.slots.size) (hv : v = f k) : Laid A (Ak.setSlot k v) lo (k + 1) f := by
  refine ⟨h.1, h.2.1, by simpa [Cell.setSlot] using h.2.2.1, fun i => ?_⟩
  by_cases e : k = i
  · subst e; rw [Cell.slots_setSlot_self v hk, if_pos (by omega), hv]
  · rw [Cell.slots_setSlot_ne v e, h.2.2.2 i]
    by_cases q : lo ≤ i ∧ i < k
    · rw [if_pos q, if_pos (by omega)]
    · rw [if_neg q, if_neg (by omega)]
def U16 : String := "java/lang/StringUTF16"
namespace Cmp5
def yN : MethodName := ⟨"java/lang/StringUTF16", "compress", "([CI[BII)I"⟩
abbrev yB : ByteArray := jdk_52_method_21_code
theorem d0 : decode yB 0 = .ok (.iconst 0, 1) := by decide +kernel
theorem d1 : decode yB 1 = .ok (.istore 5, 2) := by decide +kernel
theorem d3 : decode yB 3 = .ok (.iload 5, 2) := by decide +kernel
theorem d5 : decode yB 5 = .ok (.iload 4, 2) := by decide +kernel
theorem d7 : decode yB 7 = .ok (.if_icmp (.ge) 37, 3) := by decide +kernel
theorem d10 : decode yB 10 = .ok (.aload_n 0, 1) := by decide +kernel
theorem d11 : decode yB 11 = .ok (.iload_n 1, 1) := by decide +kernel
theorem d12 : decode yB 12 = .ok (.caload, 1) := by decide +kernel
theorem d13 : decode yB 13 = .ok (.istore 6, 2) := by decide +kernel
theorem d15 : decode yB 15 = .ok (.iload 6, 2) := by decide +kernel
theorem d17 : decode yB 17 = .ok (.sipush 255, 3) := by decide +kernel
theorem d20 : decode yB 20 = .ok (.if_icmp (.le) 6, 3) := by decide +kernel
theorem d26 : decode yB 26 = .ok (.aload_n 2, 1) := by decide +kernel
theorem d27 : decode yB 27 = .ok (.iload_n 3, 1) := by decide +kernel
theorem d28 : decode yB 28 = .ok (.iload 6, 2) := by decide +kernel
theorem d30 : decode yB 30 = .ok (.i2b, 1) := by decide +kernel
theorem d31 : decode yB 31 = .ok (.bastore, 1) := by decide +kernel
theorem d32 : decode yB 32 = .ok (.iinc 1 1, 3) := by decide +kernel
theorem d35 : decode yB 35 = .ok (.iinc 3 1, 3) := by decide +kernel
theorem d38 : decode yB 38 = .ok (.iinc 5 1, 3) := by decide +kernel
theorem d41 : decode yB 41 = .ok (.goto (-38), 3) := by decide +kernel
theorem d44 : decode yB 44 = .ok (.iload 4, 2) := by decide +kernel
theorem d46 : decode yB 46 = .ok (.ireturn, 1) := by decide +kernel
def site : List Cond := []
def tab : Cond := tabOf yN yB 7 (some .int) site
def P (b : Addr) (A : Cell) (d : Addr) (B : Cell) (o q len : Nat) (args : Array Value) (s : State) : Prop := args = #[.ref b, .int (Int32.ofNat o), .ref d, .int (Int32.ofNat q), .int (Int32.ofNat len)] ∧ Ch b A s ∧ Arr .byte d B s ∧ b ≠ d ∧ o + len ≤ A.slots.size ∧ q + len ≤ B.slots.size ∧ ∀ i, i < len → ¬ 255 < cv A (o + i)
def E (b : Addr) (A : Cell) (d : Addr) (B : Cell) (o q len : Nat) (r : Option Value) (s u : State) : Prop := r = some (.int (Int32.ofNat len)) ∧ ∃ B', Put d B' s u ∧ Laid B B' q (q + len) (fun j => Value.int (lo8 (cv A (o + (j - q)))))
/-- no char of the range above 255: len; the places written hold each char's low byte -/
theorem law (l : Launch) (b : Addr) (A : Cell) (d : Addr) (B : Cell) (o q len : Nat) : Law l yN 5 5 0 0 yB 7 (some .int) site (P b A d B o q len) (E b A d B o q len) (copyLocs d q len) 0 0 := by
  refine Law.of_walk (plainFor_of_name (by decide +kernel)) (by decide +kernel) (by decide +kernel) (by decide) (fun _ _ h => by rw [h.1]; rfl) (fun _ U U' hal hh h => ⟨h.1, h.2.1.mv hal hh, h.2.2.1.mv hal hh, h.2.2.2⟩) (fun r U U' V V' h1 hal h2 h => ⟨h.1, h.2.elim fun B' q => ⟨B', q.1.mv h1 h2, q.2⟩⟩) ?_
  intro p e s m args below meth c s₁ X0 hexec hbytes hml hret hlk hnm hown hh0 W hP
  obtain ⟨rfl, hA, hB, hne, l1, l2, hp⟩ := hP
  have c1 : Steps p.tables e below (s₁.setTop (entryFrame m #[.ref b, .int (Int32.ofNat o), .ref d, .int (Int32.ofNat q), .int (Int32.ofNat len)] 7)) (s₁.setTop (mkF m 0 #[.val (.ref b), .val (.int (Int32.ofNat o)), .val (.ref d), .val (.int (Int32.ofNat q)), .val (.int (Int32.ofNat len)), .unset, .unset] [])) := entry rfl
  have hA0 := hA.1.mv X0.warmed.alike hh0
  have hB0 := hB.mv X0.warmed.alike hh0
  have a31 := hA.1.2.2.2
  have c2 : Steps p.tables e below (s₁.setTop (entryFrame m #[.ref b, .int (Int32.ofNat o), .ref d, .int (Int32.ofNat q), .int (Int32.ofNat len)] 7)) (s₁.setTop (mkF m 3 #[.val (.ref b), .val (.int (Int32.ofNat o)), .val (.ref d), .val (.int (Int32.ofNat q)), .val (.int (Int32.ofNat len)), .val (.int 0), .unset] [])) := c1.trans (by
    refine iconstV X0.here hexec rfl 0 (hb hbytes d0) (by decide) ?_
    refine XS.istore X0.here hexec rfl (hb hbytes d1) rfl rfl ?_
    exact Steps.refl _)
  have loop : ∀ (r i : Nat), i + r = len → ∀ (z : Slot), (z = .unset ∨ ∃ w, z = .val w ∧ w.category = 1) → ∀ (Tl : State) (Bk : Cell), Stand p l e { frames := 0, locals := 0, cells := 0, slots := 0 } s m #[.ref b, .int (Int32.ofNat o), .ref d, .int (Int32.ofNat q), .int (Int32.ofNat len)] below meth c Tl ([] ++ copyLocs d q i) 0 0 → Put d Bk s₁ Tl → Laid B Bk q (q + i) (fun j => Value.int (lo8 (cv A (o + (j - q))))) →
      Steps p.tables e below (s₁.setTop (entryFrame m #[.ref b, .int (Int32.ofNat o), .ref d, .int (Int32.ofNat q), .int (Int32.ofNat len)] 7)) (Tl.setTop (mkF m 3 #[.val (.ref b), .val (.int (Int32.ofNat (o + i))), .val (.ref d), .val (.int (Int32.ofNat (q + i))), .val (.int (Int32.ofNat len)), .val (.int (Int32.ofNat i)), z] [])) → ∃ (T' : State) (B' : Cell) (z' : Slot), Stand p l e { frames := 0, locals := 0, cells := 0, slots := 0 } s m #[.ref b, .int (Int32.ofNat o), .ref d, .int (Int32.ofNat q), .int (Int32.ofNat len)] below meth c T' ([] ++ copyLocs d q len) 0 0 ∧ Put d B' s₁ T' ∧ Laid B B' q (q + len) (fun j => Value.int (lo8 (cv A (o + (j - q))))) ∧
      Steps p.tables e below (s₁.setTop (entryFrame m #[.ref b, .int (Int32.ofNat o), .ref d, .int (Int32.ofNat q), .int (Int32.ofNat len)] 7)) (T'.setTop (mkF m 3 #[.val (.ref b), .val (.int (Int32.ofNat (o + len))), .val (.ref d), .val (.int (Int32.ofNat (q + len))), .val (.int (Int32.ofNat len)), .val (.int (Int32.ofNat len)), z'] [])) := by
    intro r
    induction r with
    | zero =>
      intro i hi z hz Tl Bk Xl pl fl cl
      have hil : i = len := by omega
      rw [hil] at Xl fl cl
      exact ⟨Tl, Bk, z, Xl, pl, fl, cl⟩
    | succ r ih =>
      intro i hi z hz Tl Bk Xl pl fl cl
      have all := X0.warmed.alike.symm.trans Xl.warmed.alike
      have hAl := hA0.keep all (pl.other hne hA0.1)
      have hBk := hB0.like all pl.1 fl.1 fl.2.1 fl.2.2.1
      have hlt : q + i < Bk.slots.size := by rw [fl.2.2.1]; omega
      have c3 : Steps p.tables e below (s₁.setTop (entryFrame m #[.ref b, .int (Int32.ofNat o), .ref d, .int (Int32.ofNat q), .int (Int32.ofNat len)] 7)) (Tl.setTop (mkF m 12 #[.val (.ref b), .val (.int (Int32.ofNat (o + i))), .val (.ref d), .val (.int (Int32.ofNat (q + i))), .val (.int (Int32.ofNat len)), .val (.int (Int32.ofNat i)), z] [.int (Int32.ofNat (o + i)), .ref b])) := cl.trans (by
        refine XS.iload Xl.here hexec rfl (hb hbytes d3) rfl ?_
        refine XS.iload Xl.here hexec rfl (hb hbytes d5) rfl ?_
        refine XS.icmpNo Xl.here hexec rfl (hb hbytes d7) rfl (ii_ge_f (lt32 (by omega) (by omega))) ?_
        refine XS.aloadN Xl.here hexec rfl (hb hbytes d10) rfl rfl ?_
        refine XS.iloadN Xl.here hexec rfl (hb hbytes d11) rfl ?_
        exact Steps.refl _)
      have c4 : Steps p.tables e below (s₁.setTop (entryFrame m #[.ref b, .int (Int32.ofNat o), .ref d, .int (Int32.ofNat q), .int (Int32.ofNat len)] 7)) (Tl.setTop (mkF m 13 #[.val (.ref b), .val (.int (Int32.ofNat (o + i))), .val (.ref d), .val (.int (Int32.ofNat (q + i))), .val (.int (Int32.ofNat len)), .val (.int (Int32.ofNat i)), z] [.int (cv A (o + i))])) := c3.trans (by
        refine Xl.aget hexec hAl rfl (hA.get (i := o + i) (by omega)) rfl rfl (hb hbytes d12) ?_
        exact Steps.refl _)
      have c5 : Steps p.tables e below (s₁.setTop (entryFrame m #[.ref b, .int (Int32.ofNat o), .ref d, .int (Int32.ofNat q), .int (Int32.ofNat len)] 7)) (Tl.setTop (mkF m 15 #[.val (.ref b), .val (.int (Int32.ofNat (o + i))), .val (.ref d), .val (.int (Int32.ofNat (q + i))), .val (.int (Int32.ofNat len)), .val (.int (Int32.ofNat i)), .val (.int (cv A (o + i)))] [])) := c4.trans (by
        refine XS.istoreS Xl.here hexec rfl (hb hbytes d13) rfl rfl hz ?_
        exact Steps.refl _)
      have c6 : Steps p.tables e below (s₁.setTop (entryFrame m #[.ref b, .int (Int32.ofNat o), .ref d, .int (Int32.ofNat q), .int (Int32.ofNat len)] 7)) (Tl.setTop (mkF m 31 #[.val (.ref b), .val (.int (Int32.ofNat (o + i))), .val (.ref d), .val (.int (Int32.ofNat (q + i))), .val (.int (Int32.ofNat len)), .val (.int (Int32.ofNat i)), .val (.int (cv A (o + i)))] [.int (lo8 (cv A (o + i))), .int (Int32.ofNat (q + i)), .ref d])) := c5.trans (by
        refine XS.iload Xl.here hexec rfl (hb hbytes d15) rfl ?_
        refine sipushV Xl.here hexec rfl 255 (hb hbytes d17) (by decide) ?_
        refine XS.icmpYes Xl.here hexec rfl (pc0 := 20) rfl (hb hbytes d20) rfl (ii_le_t (hp i (by omega))) (by decide) rfl ?_
        refine XS.aloadN Xl.here hexec rfl (hb hbytes d26) rfl rfl ?_
        refine XS.iloadN Xl.here hexec rfl (hb hbytes d27) rfl ?_
        refine XS.iload Xl.here hexec rfl (hb hbytes d28) rfl ?_
        refine i2b Xl.here hexec rfl (hb hbytes d30) rfl ?_
        exact Steps.refl _)
      obtain ⟨T7, X7, p7, st7⟩ := Xl.aput hexec hBk rfl hlt rfl (fits_lo8 (cv A (o + i))) (g := (mkF m 31 #[.val (.ref b), .val (.int (Int32.ofNat (o + i))), .val (.ref d), .val (.int (Int32.ofNat (q + i))), .val (.int (Int32.ofNat len)), .val (.int (Int32.ofNat i)), .val (.int (cv A (o + i)))] [.int (lo8 (cv A (o + i))), .int (Int32.ofNat (q + i)), .ref d])) rfl (rest := []) rfl (hb hbytes d31)
      have c8 : Steps p.tables e below (s₁.setTop (entryFrame m #[.ref b, .int (Int32.ofNat o), .ref d, .int (Int32.ofNat q), .int (Int32.ofNat len)] 7)) (T7.setTop (mkF m 32 #[.val (.ref b), .val (.int (Int32.ofNat (o + i))), .val (.ref d), .val (.int (Int32.ofNat (q + i))), .val (.int (Int32.ofNat len)), .val (.int (Int32.ofNat i)), .val (.int (cv A (o + i)))] [])) := c6.trans (st7 _ (Steps.refl _))
      have c9 : Steps p.tables e below (s₁.setTop (entryFrame m #[.ref b, .int (Int32.ofNat o), .ref d, .int (Int32.ofNat q), .int (Int32.ofNat len)] 7)) (T7.setTop (mkF m 3 #[.val (.ref b), .val (.int (Int32.ofNat (o + i) + 1)), .val (.ref d), .val (.int (Int32.ofNat (q + i) + 1)), .val (.int (Int32.ofNat len)), .val (.int (Int32.ofNat i + 1)), .val (.int (cv A (o + i)))] [])) := c8.trans (by
        refine iincV X7.here hexec rfl 1 (hb hbytes d32) (by decide) rfl rfl ?_
        refine iincV X7.here hexec rfl 1 (hb hbytes d35) (by decide) rfl rfl ?_
        refine iincV X7.here hexec rfl 1 (hb hbytes d38) (by decide) rfl rfl ?_
        refine XS.goto X7.here hexec rfl (pc0 := 41) rfl (hb hbytes d41) (by decide) rfl ?_
        exact Steps.refl _)
      have c10 : Steps p.tables e below (s₁.setTop (entryFrame m #[.ref b, .int (Int32.ofNat o), .ref d, .int (Int32.ofNat q), .int (Int32.ofNat len)] 7)) (T7.setTop (mkF m 3 #[.val (.ref b), .val (.int (Int32.ofNat (o + (i + 1)))), .val (.ref d), .val (.int (Int32.ofNat (q + (i + 1)))), .val (.int (Int32.ofNat len)), .val (.int (Int32.ofNat (i + 1))), .val (.int (cv A (o + i)))] [])) := by
        have := c9
        rw [succ32, succ32, succ32] at this
        exact this
      exact ih (i + 1) (by omega) _ (Or.inr ⟨_, rfl, rfl⟩) T7 _ (by rw [copyLocs_step, ← List.append_assoc]; exact X7) (pl.trans p7) (fl.step (by omega) hlt (by simp)) c10
  obtain ⟨T9, B9, z9, X9, p9, f9, g9⟩ := loop len 0 (by omega) .unset (Or.inl rfl) s₁ B (by simpa [copyLocs] using X0) ⟨hB0.1, fun _ _ => rfl, rfl⟩ (Laid.zero _ _ _) c2
  have c11 : Steps p.tables e below (s₁.setTop (entryFrame m #[.ref b, .int (Int32.ofNat o), .ref d, .int (Int32.ofNat q), .int (Int32.ofNat len)] 7)) (T9.setTop (mkF m 46 #[.val (.ref b), .val (.int (Int32.ofNat (o + len))), .val (.ref d), .val (.int (Int32.ofNat (q + len))), .val (.int (Int32.ofNat len)), .val (.int (Int32.ofNat len)), z9] [.int (Int32.ofNat len)])) := g9.trans (by
    refine XS.iload X9.here hexec rfl (hb hbytes d3) rfl ?_
    refine XS.iload X9.here hexec rfl (hb hbytes d5) rfl ?_
    refine XS.icmpYes X9.here hexec rfl (pc0 := 7) rfl (hb hbytes d7) rfl (ii_ge_t (nlt32 (by omega) (Nat.le_refl _))) (by decide) rfl ?_
    refine XS.iload X9.here hexec rfl (hb hbytes d44) rfl ?_
    exact Steps.refl _)
  exact ⟨T9, some (.int (Int32.ofNat len)), _, _, _, X9, by simp, rfl, rfl, (fun h => by cases h), ⟨rfl, B9, p9.from hh0, f9⟩, fun fs hl => c11.trans (X9.ireturnOut hexec hret rfl (Or.inl rfl) (hb hbytes d46) hl)⟩
end Cmp5
namespace Cmp3
def yN : MethodName := ⟨"java/lang/StringUTF16", "compress", "([CII)[B"⟩
abbrev yB : ByteArray := jdk_52_method_16_code
theorem d0 : decode yB 0 = .ok (.iload_n 2, 1) := by decide +kernel
theorem d1 : decode yB 1 = .ok (.newarray .byte, 2) := by decide +kernel
theorem d3 : decode yB 3 = .ok (.astore_n 3, 1) := by decide +kernel
theorem d4 : decode yB 4 = .ok (.aload_n 0, 1) := by decide +kernel
theorem d5 : decode yB 5 = .ok (.iload_n 1, 1) := by decide +kernel
theorem d6 : decode yB 6 = .ok (.aload_n 3, 1) := by decide +kernel
theorem d7 : decode yB 7 = .ok (.iconst 0, 1) := by decide +kernel
theorem d8 : decode yB 8 = .ok (.iload_n 2, 1) := by decide +kernel
theorem d9 : decode yB 9 = .ok (.invokestatic 115, 3) := by decide +kernel
theorem d12 : decode yB 12 = .ok (.istore 4, 2) := by decide +kernel
theorem d14 : decode yB 14 = .ok (.iload 4, 2) := by decide +kernel
theorem d16 : decode yB 16 = .ok (.iload_n 2, 1) := by decide +kernel
theorem d17 : decode yB 17 = .ok (.if_icmp (.eq) 40, 3) := by decide +kernel
theorem d57 : decode yB 57 = .ok (.aload_n 3, 1) := by decide +kernel
theorem d58 : decode yB 58 = .ok (.areturn, 1) := by decide +kernel
def site : List Cond := [.arrayClass .byte, Cmp5.tab] ++ staticW U16 115 Cmp5.yN
def tab : Cond := tabOf yN yB 6 (some (.array .byte)) site
def P (b : Addr) (A : Cell) (o len : Nat) (args : Array Value) (s : State) : Prop := args = #[.ref b, .int (Int32.ofNat o), .int (Int32.ofNat len)] ∧ Ch b A s ∧ o + len ≤ A.slots.size ∧ len ≤ 536870912 ∧ ∀ i, i < len → ¬ 255 < cv A (o + i)
def E (b : Addr) (A : Cell) (o len : Nat) (r : Option Value) (s u : State) : Prop := NewArr .byte "[B" len (fun j => .int (lo8 (cv A (o + j)))) r s u ∧ u.heap.size = s.heap.size + 1
/-- no char of the range above 255: a new byte[] of their low bytes -/
theorem law (l : Launch) (b : Addr) (A : Cell) (o len : Nat) : Law l yN 3 3 1 18 yB 6 (some (.array .byte)) site (P b A o len) (E b A o len) [] 1 len := by
  refine Law.of_walk (plainFor_of_name (by decide +kernel)) (by decide +kernel) (by decide +kernel) (by decide) (fun _ _ h => by rw [h.1]; rfl) (fun _ U U' hal hh h => ⟨h.1, h.2.1.mv hal hh, h.2.2⟩) (fun r U U' V V' h1 hal h2 h => ⟨NewArr.mv r U U' V V' h1 hal h2 h.1, by rw [h1, h2]; exact h.2⟩) ?_
  intro p e s m args below meth c s₁ X0 hexec hbytes hml hret hlk hnm hown hh0 W hP
  obtain ⟨rfl, hA, l1, l2, hp⟩ := hP
  have a31 := hA.1.2.2.2
  have c1 : Steps p.tables e below (s₁.setTop (entryFrame m #[.ref b, .int (Int32.ofNat o), .int (Int32.ofNat len)] 6)) (s₁.setTop (mkF m 0 #[.val (.ref b), .val (.int (Int32.ofNat o)), .val (.int (Int32.ofNat len)), .unset, .unset, .unset] [])) := entry rfl
  have c2 : Steps p.tables e below (s₁.setTop (entryFrame m #[.ref b, .int (Int32.ofNat o), .int (Int32.ofNat len)] 6)) (s₁.setTop (mkF m 1 #[.val (.ref b), .val (.int (Int32.ofNat o)), .val (.int (Int32.ofNat len)), .unset, .unset, .unset] [.int (Int32.ofNat len)])) := c1.trans (by
    refine XS.iloadN X0.here hexec rfl (hb hbytes d0) rfl ?_
    exact Steps.refl _)
  obtain ⟨T3, B3, X3, ba3, bs3, bv3, bh3, bf3, st3⟩ := X0.anew hexec (atype := .byte) (wk W (.arrayClass .byte)) rfl (by show len * 1 ≤ _; omega) (by omega) (g := (mkF m 1 #[.val (.ref b), .val (.int (Int32.ofNat o)), .val (.int (Int32.ofNat len)), .unset, .unset, .unset] [.int (Int32.ofNat len)])) rfl (hb hbytes d1) (rest := []) rfl (Nat.le_refl _) (by show 0 + len ≤ len; omega)
  rw [hh0] at ba3 st3
  have kp3 : XT.Kept s T3 := (XT.Kept.of_eq hh0).push bh3
  have hA3 := hA.keep X3.warmed.alike (kp3 _ _ hA.1.1)
  have hne : b ≠ s.heap.size := hA.1.ne
  have c4 : Steps p.tables e below (s₁.setTop (entryFrame m #[.ref b, .int (Int32.ofNat o), .int (Int32.ofNat len)] 6)) (T3.setTop (mkF m 3 #[.val (.ref b), .val (.int (Int32.ofNat o)), .val (.int (Int32.ofNat len)), .unset, .unset, .unset] [.ref s.heap.size])) := c2.trans (st3 _ (Steps.refl _))
  have c5 : Steps p.tables e below (s₁.setTop (entryFrame m #[.ref b, .int (Int32.ofNat o), .int (Int32.ofNat len)] 6)) (T3.setTop (mkF m 9 #[.val (.ref b), .val (.int (Int32.ofNat o)), .val (.int (Int32.ofNat len)), .val (.ref s.heap.size), .unset, .unset] [.int (Int32.ofNat len), .int 0, .ref s.heap.size, .int (Int32.ofNat o), .ref b])) := c4.trans (by
    refine XS.astoreN X3.here hexec rfl (hb hbytes d3) rfl rfl rfl ?_
    refine XS.aloadN X3.here hexec rfl (hb hbytes d4) rfl rfl ?_
    refine XS.iloadN X3.here hexec rfl (hb hbytes d5) rfl ?_
    refine XS.aloadN X3.here hexec rfl (hb hbytes d6) rfl rfl ?_
    refine iconstV X3.here hexec rfl 0 (hb hbytes d7) (by decide) ?_
    refine XS.iloadN X3.here hexec rfl (hb hbytes d8) rfl ?_
    exact Steps.refl _)
  obtain ⟨v6, T6, X6, E6, g6⟩ := X3.callS hexec (Cmp5.law l b A s.heap.size B3 o 0 len) hown (wks W (staticW U16 115 Cmp5.yN)) (wk W Cmp5.tab) (W := 0) (Nat.le_of_ble_eq_true rfl) (Nat.le_of_ble_eq_true rfl) (Nat.le_refl _) (by show 0 + len + 0 ≤ len; omega) (g := (mkF m 9 #[.val (.ref b), .val (.int (Int32.ofNat o)), .val (.int (Int32.ofNat len)), .val (.ref s.heap.size), .unset, .unset] [.int (Int32.ofNat len), .int (Int32.ofNat 0), .ref s.heap.size, .int (Int32.ofNat o), .ref b])) rfl (by rw [hml]; rfl) c5 (argsL := [.ref b, .int (Int32.ofNat o), .ref s.heap.size, .int (Int32.ofNat 0), .int (Int32.ofNat len)]) (rest := []) rfl rfl (by show 2 * 0 + 0 ≤ _; decide) (hb hbytes d9) (⟨rfl, hA3, ba3, hne, l1, by rw [bs3]; simp, hp⟩)
  obtain ⟨rfl, B6, p6, f6⟩ := E6
  have c7 : Steps p.tables e below (s₁.setTop (entryFrame m #[.ref b, .int (Int32.ofNat o), .int (Int32.ofNat len)] 6)) (T6.setTop (mkF m 12 #[.val (.ref b), .val (.int (Int32.ofNat o)), .val (.int (Int32.ofNat len)), .val (.ref s.heap.size), .unset, .unset] [.int (Int32.ofNat len)])) := g6
  have c8 : Steps p.tables e below (s₁.setTop (entryFrame m #[.ref b, .int (Int32.ofNat o), .int (Int32.ofNat len)] 6)) (T6.setTop (mkF m 58 #[.val (.ref b), .val (.int (Int32.ofNat o)), .val (.int (Int32.ofNat len)), .val (.ref s.heap.size), .val (.int (Int32.ofNat len)), .unset] [.ref s.heap.size])) := c7.trans (by
    refine XS.istore X6.here hexec rfl (hb hbytes d12) rfl rfl ?_
    refine XS.iload X6.here hexec rfl (hb hbytes d14) rfl ?_
    refine XS.iloadN X6.here hexec rfl (hb hbytes d16) rfl ?_
    refine XS.icmpYes X6.here hexec rfl (pc0 := 17) rfl (hb hbytes d17) rfl (ii_eq_t rfl) (by decide) rfl ?_
    refine XS.aloadN X6.here hexec rfl (hb hbytes d57) rfl rfl ?_
    exact Steps.refl _)
  have X8 := X6.wide (L' := []) (cells' := 1) (slots' := len) (fun x hx hlt => by
    simp only [List.nil_append, copyLocs, List.mem_map, List.mem_range] at hx
    obtain ⟨i, -, rfl⟩ := hx
    exact absurd hlt (Nat.lt_irrefl _)) (Nat.le_refl _) (by omega)
  exact ⟨T6, some (.ref s.heap.size), _, _, _, X8, rfl, rfl, rfl, (fun h => by cases h), ⟨⟨rfl, B6, ba3.like (X3.warmed.alike.symm.trans X6.warmed.alike) p6.1 f6.1 f6.2.1 f6.2.2.1, f6.2.1.trans bv3, by rw [X6.warmed.alike.findClass, f6.1]; exact bf3, by rw [f6.2.2.1, bs3]; simp, fun j hj => by rw [f6.2.2.2 j, if_pos (by omega)]; rfl, kp3.put p6 (Nat.le_refl _)⟩, by rw [p6.2.2, bh3, hh0]; simp⟩, fun fs hl => c8.trans (X8.areturnOut hexec rfl hret rfl (hb hbytes d58) hl)⟩
end Cmp3
namespace CodL
def yN : MethodName := ⟨"java/lang/StringUTF16", "coderFromArrayLen", "([BI)B"⟩
abbrev yB : ByteArray := jdk_52_method_15_code
theorem d0 : decode yB 0 = .ok (.iload_n 1, 1) := by decide +kernel
theorem d1 : decode yB 1 = .ok (.aload_n 0, 1) := by decide +kernel
theorem d2 : decode yB 2 = .ok (.arraylength, 1) := by decide +kernel
theorem d3 : decode yB 3 = .ok (.isub, 1) := by decide +kernel
theorem d4 : decode yB 4 = .ok (.bipush 31, 2) := by decide +kernel
theorem d6 : decode yB 6 = .ok (.iushr, 1) := by decide +kernel
theorem d7 : decode yB 7 = .ok (.i2b, 1) := by decide +kernel
theorem d8 : decode yB 8 = .ok (.ireturn, 1) := by decide +kernel
def site : List Cond := []
def tab : Cond := tabOf yN yB 2 (some .byte) site
def P (d : Addr) (B : Cell) (args : Array Value) (s : State) : Prop := args = #[.ref d, .int (Int32.ofNat B.slots.size)] ∧ Arr .byte d B s
def E (r : Option Value) (s u : State) : Prop := XT.PureE (some (.int 0)) r s u
/-- an array as long as the number of chars: LATIN1 -/
theorem law (l : Launch) (d : Addr) (B : Cell) : Law l yN 2 2 0 0 yB 2 (some .byte) site (P d B) E [] 0 0 := by
  refine Law.of_walk (plainFor_of_name (by decide +kernel)) (by decide +kernel) (by decide +kernel) (by decide) (fun _ _ h => by rw [h.1]; rfl) (fun _ U U' hal hh h => ⟨h.1, h.2.mv hal hh⟩) (fun r U U' V V' h1 hal h2 h => XT.PureE.mv r U U' V V' h1 hal h2 h) ?_
  intro p e s m args below meth c s₁ X0 hexec hbytes hml hret hlk hnm hown hh0 W hP
  obtain ⟨rfl, hB⟩ := hP
  have hB0 := hB.mv X0.warmed.alike hh0
  have c1 : Steps p.tables e below (s₁.setTop (entryFrame m #[.ref d, .int (Int32.ofNat B.slots.size)] 2)) (s₁.setTop (mkF m 0 #[.val (.ref d), .val (.int (Int32.ofNat B.slots.size))] [])) := entry rfl
  have c2 : Steps p.tables e below (s₁.setTop (entryFrame m #[.ref d, .int (Int32.ofNat B.slots.size)] 2)) (s₁.setTop (mkF m 2 #[.val (.ref d), .val (.int (Int32.ofNat B.slots.size))] [.ref d, .int (Int32.ofNat B.slots.size)])) := c1.trans (by
    refine XS.iloadN X0.here hexec rfl (hb hbytes d0) rfl ?_
    refine XS.aloadN X0.here hexec rfl (hb hbytes d1) rfl rfl ?_
    exact Steps.refl _)
  have c3 : Steps p.tables e below (s₁.setTop (entryFrame m #[.ref d, .int (Int32.ofNat B.slots.size)] 2)) (s₁.setTop (mkF m 8 #[.val (.ref d), .val (.int (Int32.ofNat B.slots.size))] [.int (lo8 (ushr (Int32.ofNat B.slots.size - Int32.ofNat B.slots.size) 31))])) := c2.trans (by
    refine X0.alen hexec hB0 rfl rfl (hb hbytes d2) ?_
    refine XS.isub X0.here hexec rfl (hb hbytes d3) rfl ?_
    refine bipushV X0.here hexec rfl 31 (hb hbytes d4) (by decide) ?_
    refine iushr X0.here hexec rfl (hb hbytes d6) rfl ?_
    refine i2b X0.here hexec rfl (hb hbytes d7) rfl ?_
    exact Steps.refl _)
  have e0 : lo8 (ushr (Int32.ofNat B.slots.size - Int32.ofNat B.slots.size) 31) = 0 := by rw [Int32.sub_self]; decide
  rw [e0] at c3
  exact ⟨s₁, some (.int 0), _, _, _, X0, rfl, rfl, rfl, (fun h => by cases h), ⟨rfl, hh0⟩, fun fs hl => c3.trans (X0.ireturnOut hexec hret rfl (Or.inr (Or.inr (Or.inl rfl))) (hb hbytes d8) hl)⟩
end CodL
/-- the String at a is Latin-1 over a new byte[] (the heap's one new cell): the low bytes of the len chars of A from o on; every cell but a is kept -/
def Got (a : Addr) (D : Cell) (fV fC : Field) (A : Cell) (o len : Nat) (r : Option Value) (s u : State) : Prop := r = none ∧ ∃ D' V : Cell, Blank "java/lang/String" a D' u ∧ Same D D' [fV.slot, fC.slot] ∧ D'.slots[fV.slot]? = some (.ref s.heap.size) ∧ D'.slots[fC.slot]? = some (.int 0) ∧ Arr .byte s.heap.size V u ∧ V.vm = .none ∧ u.vm.findClass "[B" = some V.cls ∧ V.slots.size = len ∧ (∀ j, j < len → V.slots[j]? = some (.int (lo8 (cv A (o + j))))) ∧ (∀ (y : Addr) (c : Cell), y ≠ a → s.heap[y]? = some c → u.heap[y]? = some c) ∧ u.heap.size = s.heap.size + 1
theorem Got.mv {a : Addr} {D A : Cell} {fV fC : Field} {o len : Nat} : ∀ r (U U' V V' : State), U'.heap = U.heap → V.vm.Alike V'.vm → V'.heap = V.heap → Got a D fV fC A o len r U V → Got a D fV fC A o len r U' V' :=
  fun r U U' V V' h1 hal h2 ⟨e0, D', X, a1, a2, a3, a4, a5, a6, a7, a8, a9, a10, a11⟩ => ⟨e0, D', X, a1.mv hal h2, a2, by rw [h1]; exact a3, a4, by rw [h1]; exact a5.mv hal h2, a6, by rw [hal.findClass]; exact a7, a8, a9, by rw [h1, h2]; exact a10, by rw [h1, h2]; exact a11⟩
namespace New4
def yN : MethodName := ⟨"java/lang/String", "<init>", "([CIILjava/lang/Void;)V"⟩
abbrev yB : ByteArray := jdk_42_method_149_code
theorem d0 : decode yB 0 = .ok (.aload_n 0, 1) := by decide +kernel
theorem d1 : decode yB 1 = .ok (.invokespecial 1, 3) := by decide +kernel
theorem d4 : decode yB 4 = .ok (.iload_n 3, 1) := by decide +kernel
theorem d5 : decode yB 5 = .ok (.ifCond (.ne) 22, 3) := by decide +kernel
theorem d27 : decode yB 27 = .ok (.getstatic 38, 3) := by decide +kernel
theorem d30 : decode yB 30 = .ok (.ifCond (.eq) 28, 3) := by decide +kernel
theorem d33 : decode yB 33 = .ok (.aload_n 1, 1) := by decide +kernel
theorem d34 : decode yB 34 = .ok (.iload_n 2, 1) := by decide +kernel
theorem d35 : decode yB 35 = .ok (.iload_n 3, 1) := by decide +kernel
theorem d36 : decode yB 36 = .ok (.invokestatic 177, 3) := by decide +kernel
theorem d39 : decode yB 39 = .ok (.astore 5, 2) := by decide +kernel
theorem d41 : decode yB 41 = .ok (.aload_n 0, 1) := by decide +kernel
theorem d42 : decode yB 42 = .ok (.aload 5, 2) := by decide +kernel
theorem d44 : decode yB 44 = .ok (.iload_n 3, 1) := by decide +kernel
theorem d45 : decode yB 45 = .ok (.invokestatic 47, 3) := by decide +kernel
theorem d48 : decode yB 48 = .ok (.putfield 15, 3) := by decide +kernel
theorem d51 : decode yB 51 = .ok (.aload_n 0, 1) := by decide +kernel
theorem d52 : decode yB 52 = .ok (.aload 5, 2) := by decide +kernel
theorem d54 : decode yB 54 = .ok (.putfield 9, 3) := by decide +kernel
theorem d57 : decode yB 57 = .ok (.return_, 1) := by decide +kernel
def site : List Cond := [.fieldLink "java/lang/String" 38 "java/lang/String" "COMPACT_STRINGS" "Z", Cmp3.tab, CodL.tab, .laysFinal "java/lang/String" "java/lang/String" "value" "[B", .fieldLink "java/lang/String" 9 "java/lang/String" "value" "[B", .laysFinal "java/lang/String" "java/lang/String" "coder" "B", .fieldLink "java/lang/String" 15 "java/lang/String" "coder" "B"] ++ objW "java/lang/String" 1 ++ staticW "java/lang/String" 177 Cmp3.yN ++ staticW "java/lang/String" 47 CodL.yN
def tab : Cond := tabOf yN yB 6 none site
def P (a : Addr) (D : Cell) (fV fC : Field) (b : Addr) (A : Cell) (z : Int32) (o len : Nat) (args : Array Value) (s : State) : Prop := args = #[.ref a, .ref b, .int (Int32.ofNat o), .int (Int32.ofNat len), .null] ∧ Blank "java/lang/String" a D s ∧ Found "java/lang/String" "value" "[B" fV s ∧ Found "java/lang/String" "coder" "B" fC s ∧ Ch b A s ∧ StaticIs s "java/lang/String" "COMPACT_STRINGS" "Z" (.int z) ∧ ¬ z = 0 ∧ 0 < len ∧ o + len ≤ A.slots.size ∧ len ≤ 536870912 ∧ ∀ i, i < len → ¬ 255 < cv A (o + i)
def E (a : Addr) (D : Cell) (fV fC : Field) (A : Cell) (o len : Nat) (r : Option Value) (s u : State) : Prop := Got a D fV fC A o len r s u
/-- len > 0, no char of the range above 255: a Latin-1 String of their low bytes -/
theorem law (l : Launch) (a : Addr) (D : Cell) (fV fC : Field) (b : Addr) (A : Cell) (z : Int32) (o len : Nat) : Law l yN 5 4 2 35 yB 6 none site (P a D fV fC b A z o len) (E a D fV fC A o len) [⟨a, fC.slot⟩, ⟨a, fV.slot⟩] 1 len := by
  refine Law.of_walk (plainFor_of_name (by decide +kernel)) (by decide +kernel) (by decide +kernel) (by decide) (fun _ _ h => by rw [h.1]; rfl) (fun _ U U' hal hh h => ⟨h.1, h.2.1.mv hal hh, h.2.2.1.al hal, h.2.2.2.1.al hal, h.2.2.2.2.1.mv hal hh, h.2.2.2.2.2.1.there hal hh, h.2.2.2.2.2.2⟩) (fun r U U' V V' h1 hal h2 h => Got.mv r U U' V V' h1 hal h2 h) ?_
  intro p e s m args below meth c s₁ X0 hexec hbytes hml hret hlk hnm hown hh0 W hP
  obtain ⟨rfl, hB, f1, f2, hA, s1, hz, l0, l1, l2, hp⟩ := hP
  have a31 := hA.1.2.2.2
  have c1 : Steps p.tables e below (s₁.setTop (entryFrame m #[.ref a, .ref b, .int (Int32.ofNat o), .int (Int32.ofNat len), .null] 6)) (s₁.setTop (mkF m 0 #[.val (.ref a), .val (.ref b), .val (.int (Int32.ofNat o)), .val (.int (Int32.ofNat len)), .val .null, .unset] [])) := entry rfl
  have c2 : Steps p.tables e below (s₁.setTop (entryFrame m #[.ref a, .ref b, .int (Int32.ofNat o), .int (Int32.ofNat len), .null] 6)) (s₁.setTop (mkF m 1 #[.val (.ref a), .val (.ref b), .val (.int (Int32.ofNat o)), .val (.int (Int32.ofNat len)), .val .null, .unset] [.ref a])) := c1.trans (by
    refine XS.aloadN X0.here hexec rfl (hb hbytes d0) rfl rfl ?_
    exact Steps.refl _)
  obtain ⟨T3, X3, q3, st3⟩ := X0.oinit hexec hown (wks W (objW "java/lang/String" 1)) (g := (mkF m 1 #[.val (.ref a), .val (.ref b), .val (.int (Int32.ofNat o)), .val (.int (Int32.ofNat len)), .val .null, .unset] [.ref a])) rfl (by rw [hml]; rfl) (rest := []) rfl (hb hbytes d1) (W := 0) (by show 2 * 0 + 0 ≤ _; decide) (Nat.le_of_ble_eq_true rfl) (Nat.le_of_ble_eq_true rfl)
  have hh3 := q3.trans hh0
  have c4 : Steps p.tables e below (s₁.setTop (entryFrame m #[.ref a, .ref b, .int (Int32.ofNat o), .int (Int32.ofNat len), .null] 6)) (T3.setTop (mkF m 27 #[.val (.ref a), .val (.ref b), .val (.int (Int32.ofNat o)), .val (.int (Int32.ofNat len)), .val .null, .unset] [])) := (c2.trans (st3 _ (Steps.refl _))).trans (by
    refine XS.iloadN X3.here hexec rfl (hb hbytes d4) rfl ?_
    refine XS.ifYes X3.here hexec rfl (pc0 := 5) rfl (hb hbytes d5) rfl (i0_ne_t (nz32 (by omega) l0)) (by decide) rfl ?_
    exact Steps.refl _)
  obtain ⟨T5, X5, q5, st5⟩ := X3.sget hexec hown (wk W (.fieldLink "java/lang/String" 38 "java/lang/String" "COMPACT_STRINGS" "Z")) s1 (fun _ _ h => by rw [hh3]; exact h) (g := (mkF m 27 #[.val (.ref a), .val (.ref b), .val (.int (Int32.ofNat o)), .val (.int (Int32.ofNat len)), .val .null, .unset] [])) rfl (hb hbytes d27)
  have hh5 := q5.trans hh3
  have c6 : Steps p.tables e below (s₁.setTop (entryFrame m #[.ref a, .ref b, .int (Int32.ofNat o), .int (Int32.ofNat len), .null] 6)) (T5.setTop (mkF m 30 #[.val (.ref a), .val (.ref b), .val (.int (Int32.ofNat o)), .val (.int (Int32.ofNat len)), .val .null, .unset] [.int z])) := c4.trans (st5 _ (Steps.refl _))
  have c7 : Steps p.tables e below (s₁.setTop (entryFrame m #[.ref a, .ref b, .int (Int32.ofNat o), .int (Int32.ofNat len), .null] 6)) (T5.setTop (mkF m 36 #[.val (.ref a), .val (.ref b), .val (.int (Int32.ofNat o)), .val (.int (Int32.ofNat len)), .val .null, .unset] [.int (Int32.ofNat len), .int (Int32.ofNat o), .ref b])) := c6.trans (by
    refine XS.ifNo X5.here hexec rfl (hb hbytes d30) rfl (i0_eq_f hz) ?_
    refine XS.aloadN X5.here hexec rfl (hb hbytes d33) rfl rfl ?_
    refine XS.iloadN X5.here hexec rfl (hb hbytes d34) rfl ?_
    refine XS.iloadN X5.here hexec rfl (hb hbytes d35) rfl ?_
    exact Steps.refl _)
  obtain ⟨v8, T8, X8, E8, g8⟩ := X5.callS hexec (Cmp3.law l b A o len) hown (wks W (staticW "java/lang/String" 177 Cmp3.yN)) (wk W Cmp3.tab) (W := 0) (Nat.le_of_ble_eq_true rfl) (Nat.le_of_ble_eq_true rfl) (Nat.le_refl _) (by show 0 + len ≤ len; omega) (g := (mkF m 36 #[.val (.ref a), .val (.ref b), .val (.int (Int32.ofNat o)), .val (.int (Int32.ofNat len)), .val .null, .unset] [.int (Int32.ofNat len), .int (Int32.ofNat o), .ref b])) rfl (by rw [hml]; rfl) c7 (argsL := [.ref b, .int (Int32.ofNat o), .int (Int32.ofNat len)]) (rest := []) rfl rfl (by show 2 * 0 + 0 ≤ _; decide) (hb hbytes d36) (⟨rfl, hA.mv X5.warmed.alike hh5, l1, l2, hp⟩)
  obtain ⟨e8, z8⟩ := E8
  obtain ⟨rfl, N, n1, n2, n3, n4, n5, n6⟩ := NewArr.mv _ T5 s _ _ hh5.symm (Vm.Alike.refl _) rfl e8
  rw [hh5] at z8
  have hB1 := hB.keep X8.warmed.alike (n6 _ _ hB.1)
  have hne : s.heap.size ≠ a := (Nat.ne_of_lt (Array.getElem?_eq_some_iff.mp hB.1).1).symm
  have c9 : Steps p.tables e below (s₁.setTop (entryFrame m #[.ref a, .ref b, .int (Int32.ofNat o), .int (Int32.ofNat len), .null] 6)) (T8.setTop (mkF m 39 #[.val (.ref a), .val (.ref b), .val (.int (Int32.ofNat o)), .val (.int (Int32.ofNat len)), .val .null, .unset] [.ref s.heap.size])) := g8
  have c10 : Steps p.tables e below (s₁.setTop (entryFrame m #[.ref a, .ref b, .int (Int32.ofNat o), .int (Int32.ofNat len), .null] 6)) (T8.setTop (mkF m 45 #[.val (.ref a), .val (.ref b), .val (.int (Int32.ofNat o)), .val (.int (Int32.ofNat len)), .val .null, .val (.ref s.heap.size)] [.int (Int32.ofNat N.slots.size), .ref s.heap.size, .ref a])) := by
    have hc : Steps p.tables e below (s₁.setTop (entryFrame m #[.ref a, .ref b, .int (Int32.ofNat o), .int (Int32.ofNat len), .null] 6)) (T8.setTop (mkF m 45 #[.val (.ref a), .val (.ref b), .val (.int (Int32.ofNat o)), .val (.int (Int32.ofNat len)), .val .null, .val (.ref s.heap.size)] [.int (Int32.ofNat len), .ref s.heap.size, .ref a])) := c9.trans (by
      refine XS.astore X8.here hexec rfl (hb hbytes d39) rfl rfl rfl ?_
      refine XS.aloadN X8.here hexec rfl (hb hbytes d41) rfl rfl ?_
      refine XS.aload X8.here hexec rfl (hb hbytes d42) rfl rfl ?_
      refine XS.iloadN X8.here hexec rfl (hb hbytes d44) rfl ?_
      exact Steps.refl _)
    rw [n4]; exact hc
  obtain ⟨v11, T11, X11, E11, g11⟩ := X8.callS hexec (CodL.law l s.heap.size N) hown (wks W (staticW "java/lang/String" 47 CodL.yN)) (wk W CodL.tab) (W := 1) (Nat.le_of_ble_eq_true rfl) (Nat.le_of_ble_eq_true rfl) (Nat.le_refl _) (by show 0 + len + 0 ≤ len; omega) (g := (mkF m 45 #[.val (.ref a), .val (.ref b), .val (.int (Int32.ofNat o)), .val (.int (Int32.ofNat len)), .val .null, .val (.ref s.heap.size)] [.int (Int32.ofNat N.slots.size), .ref s.heap.size, .ref a])) rfl (by rw [hml]; rfl) c10 (argsL := [.ref s.heap.size, .int (Int32.ofNat N.slots.size)]) (rest := [.ref a]) rfl rfl (by show 2 * 0 + (1 + 0) ≤ _; decide) (hb hbytes d45) (⟨rfl, n1⟩)
  obtain ⟨rfl, q11⟩ := E11
  have hB11 := hB1.mv (X8.warmed.alike.symm.trans X11.warmed.alike) q11
  have c12 : Steps p.tables e below (s₁.setTop (entryFrame m #[.ref a, .ref b, .int (Int32.ofNat o), .int (Int32.ofNat len), .null] 6)) (T11.setTop (mkF m 48 #[.val (.ref a), .val (.ref b), .val (.int (Int32.ofNat o)), .val (.int (Int32.ofNat len)), .val .null, .val (.ref s.heap.size)] [.int 0, .ref a])) := g11
  obtain ⟨T13, X13, p13, bl13, sl13, st13⟩ := X11.finit hexec hown (wk W (.fieldLink "java/lang/String" 15 "java/lang/String" "coder" "B")) (Or.inr ⟨_, (wk W (.laysFinal "java/lang/String" "java/lang/String" "coder" "B"))⟩) (Or.inl ⟨rfl, hnm⟩) f2 (Or.inl rfl) hB11 (t := .byte) (by decide +kernel) rfl (g := (mkF m 48 #[.val (.ref a), .val (.ref b), .val (.int (Int32.ofNat o)), .val (.int (Int32.ofNat len)), .val .null, .val (.ref s.heap.size)] [.int 0, .ref a])) rfl (rest := []) rfl (hb hbytes d48)
  have c14 : Steps p.tables e below (s₁.setTop (entryFrame m #[.ref a, .ref b, .int (Int32.ofNat o), .int (Int32.ofNat len), .null] 6)) (T13.setTop (mkF m 54 #[.val (.ref a), .val (.ref b), .val (.int (Int32.ofNat o)), .val (.int (Int32.ofNat len)), .val .null, .val (.ref s.heap.size)] [.ref s.heap.size, .ref a])) := (c12.trans (st13 _ (Steps.refl _))).trans (by
    refine XS.aloadN X13.here hexec rfl (hb hbytes d51) rfl rfl ?_
    refine XS.aload X13.here hexec rfl (hb hbytes d52) rfl rfl ?_
    exact Steps.refl _)
  obtain ⟨T15, X15, p15, bl15, sl15, st15⟩ := X13.finit hexec hown (wk W (.fieldLink "java/lang/String" 9 "java/lang/String" "value" "[B")) (Or.inr ⟨_, (wk W (.laysFinal "java/lang/String" "java/lang/String" "value" "[B"))⟩) (Or.inl ⟨rfl, hnm⟩) f1 (Or.inl rfl) bl13 (t := (.array .byte)) (by decide +kernel) rfl (g := (mkF m 54 #[.val (.ref a), .val (.ref b), .val (.int (Int32.ofNat o)), .val (.int (Int32.ofNat len)), .val .null, .val (.ref s.heap.size)] [.ref s.heap.size, .ref a])) rfl (rest := []) rfl (hb hbytes d54)
  have c16 : Steps p.tables e below (s₁.setTop (entryFrame m #[.ref a, .ref b, .int (Int32.ofNat o), .int (Int32.ofNat len), .null] 6)) (T15.setTop (mkF m 57 #[.val (.ref a), .val (.ref b), .val (.int (Int32.ofNat o)), .val (.int (Int32.ofNat len)), .val .null, .val (.ref s.heap.size)] [])) := c14.trans (st15 _ (Steps.refl _))
  have ap := apart (Or.inr ⟨_, (wk W (.laysFinal "java/lang/String" "java/lang/String" "value" "[B"))⟩) (Or.inr ⟨_, (wk W (.laysFinal "java/lang/String" "java/lang/String" "coder" "B"))⟩) f1 f2 (t₁ := .array .byte) (t₂ := .byte) (by decide +kernel) (by decide +kernel) (by decide)
  have al := X8.warmed.alike.symm.trans X15.warmed.alike
  have n7 : T11.heap[s.heap.size]? = some N := by rw [q11]; exact n1.1
  exact ⟨T15, none, _, _, _, X15, by simp, rfl, by omega, (fun _ => rfl), ⟨rfl, _, N, bl15, ((Same.refl D _).set _ (by simp)).set _ (by simp), sl15, (Cell.slots_setSlot_ne _ ap).trans sl13, n1.keep al (p15.other hne (p13.other hne n7)), n2, by rw [al.findClass]; exact n3, n4, n5, fun y c h1 h2 => p15.other h1 (p13.other h1 (by rw [q11]; exact n6 y c h2)), by rw [p15.2.2, p13.2.2, q11]; exact z8⟩, fun fs hl => c16.trans (X15.returnOut hexec hret (hb hbytes d57) hl)⟩
end New4
namespace New1
def yN : MethodName := ⟨"java/lang/String", "<init>", "([C)V"⟩
abbrev yB : ByteArray := jdk_42_method_3_code
theorem d0 : decode yB 0 = .ok (.aload_n 0, 1) := by decide +kernel
theorem d1 : decode yB 1 = .ok (.aload_n 1, 1) := by decide +kernel
theorem d2 : decode yB 2 = .ok (.iconst 0, 1) := by decide +kernel
theorem d3 : decode yB 3 = .ok (.aload_n 1, 1) := by decide +kernel
theorem d4 : decode yB 4 = .ok (.arraylength, 1) := by decide +kernel
theorem d5 : decode yB 5 = .ok (.aconst_null, 1) := by decide +kernel
theorem d6 : decode yB 6 = .ok (.invokespecial 27, 3) := by decide +kernel
theorem d9 : decode yB 9 = .ok (.return_, 1) := by decide +kernel
def site : List Cond := [New4.tab] ++ initW "java/lang/String" 27 New4.yN
def tab : Cond := tabOf yN yB 2 none site
def P (a : Addr) (D : Cell) (fV fC : Field) (b : Addr) (A : Cell) (z : Int32) (args : Array Value) (s : State) : Prop := args = #[.ref a, .ref b] ∧ Blank "java/lang/String" a D s ∧ Found "java/lang/String" "value" "[B" fV s ∧ Found "java/lang/String" "coder" "B" fC s ∧ Ch b A s ∧ StaticIs s "java/lang/String" "COMPACT_STRINGS" "Z" (.int z) ∧ ¬ z = 0 ∧ 0 < A.slots.size ∧ A.slots.size ≤ 536870912 ∧ ∀ i, i < A.slots.size → ¬ 255 < cv A i
def E (a : Addr) (D : Cell) (fV fC : Field) (A : Cell) (r : Option Value) (s u : State) : Prop := Got a D fV fC A 0 A.slots.size r s u
/-- new String(chars), not empty, no char above 255: a Latin-1 String of their low bytes -/
theorem law (l : Launch) (a : Addr) (D : Cell) (fV fC : Field) (b : Addr) (A : Cell) (z : Int32) : Law l yN 2 1 3 52 yB 2 none site (P a D fV fC b A z) (E a D fV fC A) [⟨a, fC.slot⟩, ⟨a, fV.slot⟩] 1 A.slots.size := by
  refine Law.of_walk (plainFor_of_name (by decide +kernel)) (by decide +kernel) (by decide +kernel) (by decide) (fun _ _ h => by rw [h.1]; rfl) (fun _ U U' hal hh h => ⟨h.1, h.2.1.mv hal hh, h.2.2.1.al hal, h.2.2.2.1.al hal, h.2.2.2.2.1.mv hal hh, h.2.2.2.2.2.1.there hal hh, h.2.2.2.2.2.2⟩) (fun r U U' V V' h1 hal h2 h => Got.mv r U U' V V' h1 hal h2 h) ?_
  intro p e s m args below meth c s₁ X0 hexec hbytes hml hret hlk hnm hown hh0 W hP
  obtain ⟨rfl, hB, f1, f2, hA, s1, hz, l0, l2, hp⟩ := hP
  have c1 : Steps p.tables e below (s₁.setTop (entryFrame m #[.ref a, .ref b] 2)) (s₁.setTop (mkF m 0 #[.val (.ref a), .val (.ref b)] [])) := entry rfl
  have c2 : Steps p.tables e below (s₁.setTop (entryFrame m #[.ref a, .ref b] 2)) (s₁.setTop (mkF m 6 #[.val (.ref a), .val (.ref b)] [.null, .int (Int32.ofNat A.slots.size), .int 0, .ref b, .ref a])) := c1.trans (by
    refine XS.aloadN X0.here hexec rfl (hb hbytes d0) rfl rfl ?_
    refine XS.aloadN X0.here hexec rfl (hb hbytes d1) rfl rfl ?_
    refine iconstV X0.here hexec rfl 0 (hb hbytes d2) (by decide) ?_
    refine XS.aloadN X0.here hexec rfl (hb hbytes d3) rfl rfl ?_
    refine X0.alen hexec (hA.1.mv X0.warmed.alike hh0) rfl rfl (hb hbytes d4) ?_
    refine XS.aconstNull X0.here hexec rfl (hb hbytes d5) ?_
    exact Steps.refl _)
  obtain ⟨v3, T3, X3, E3, g3⟩ := X0.callN hexec (New4.law l a D fV fC b A z 0 A.slots.size) rfl hown (wks W (initW "java/lang/String" 27 New4.yN)) (W New4.tab (by simp only [site, List.mem_cons, List.mem_append, true_or, or_true])) (W := 0) (Nat.le_of_ble_eq_true rfl) (Nat.le_of_ble_eq_true rfl) (Nat.le_refl _) (by show 0 + A.slots.size ≤ A.slots.size; omega) (g := (mkF m 6 #[.val (.ref a), .val (.ref b)] [.null, .int (Int32.ofNat A.slots.size), .int (Int32.ofNat 0), .ref b, .ref a])) rfl (by rw [hml]; rfl) c2 (argsL := [.ref b, .int (Int32.ofNat 0), .int (Int32.ofNat A.slots.size), .null]) (rest := []) rfl rfl (by show 2 * 0 + 0 ≤ _; decide) (hb hbytes d6) (⟨rfl, hB.mv X0.warmed.alike hh0, f1.al X0.warmed.alike, f2.al X0.warmed.alike, hA.mv X0.warmed.alike hh0, s1.there X0.warmed.alike hh0, hz, l0, by omega, l2, fun i hi => by rw [Nat.zero_add]; exact hp i hi⟩)
  have e0 := Got.mv _ s₁ s _ _ hh0.symm (Vm.Alike.refl _) rfl E3
  obtain rfl := e0.1
  have c4 : Steps p.tables e below (s₁.setTop (entryFrame m #[.ref a, .ref b] 2)) (T3.setTop (mkF m 9 #[.val (.ref a), .val (.ref b)] [])) := g3
  exact ⟨T3, none, _, _, _, X3, by simp, rfl, by omega, (fun _ => rfl), e0, fun fs hl => c4.trans (X3.returnOut hexec hret (hb hbytes d9) hl)⟩
theorem pays {l : Launch} {R : Room} {p : Program} {e : Env} {below : List Frame} {s : State} {sargs : Array Value} {len W : Nat} (a : Addr) (D : Cell) (fV fC : Field) (b : Addr) (A : Cell) (z : Int32) (htab : tab.before sargs s = true) (hfr : 4 ≤ R.frames) (hlo : W + 65 ≤ R.locals) :
    Back l R p e below s sargs yN len W (fun A₁ a₁ => A₁.cells + 1 ≤ R.cells ∧ A₁.slots + A.slots.size ≤ R.slots ∧ P a D fV fC b A z a₁ A₁.U) (fun A₁ _ v₁ B₁ => E a D fV fC A v₁ A₁.U B₁.U ∧ B₁.locs = A₁.locs ++ [⟨a, fC.slot⟩, ⟨a, fV.slot⟩] ∧ B₁.cells = A₁.cells + 1 ∧ B₁.slots = A₁.slots + A.slots.size) :=
  (law l a D fV fC b A z).pays htab hfr (by omega)
end New1
end StrChars
namespace StrChars.Road
open Jvm Sem ClassFile Op Lib Jvm.Stand Jvm.Free Jvm.Free.XT
open Jvm.Lib.Cold (StaticIs)
abbrev ST : String := "java/lang/String"
/-- every table word that New1's law asks, flat -/
abbrev words : List Jvm.Cond := [.code New1.yN New1.yB 2 none, .initialized ST, .methodLink ST 27 New4.yN, .instanceMethod New4.yN,
  .code New4.yN New4.yB 6 none, .fieldLink ST 38 ST "COMPACT_STRINGS" "Z", .laysFinal ST ST "value" "[B", .fieldLink ST 9 ST "value" "[B", .laysFinal ST ST "coder" "B", .fieldLink ST 15 ST "coder" "B",
  .methodLink ST 1 Lib.objectInit, .instanceMethod Lib.objectInit, .code Lib.objectInit ⟨#[0xb1]⟩ 1 none, .methodLink ST 177 Cmp3.yN, .static Cmp3.yN, .methodLink ST 47 CodL.yN, .static CodL.yN,
  .code Cmp3.yN Cmp3.yB 6 (some (.array .byte)), .initialized U16, .arrayClass .byte, .methodLink U16 115 Cmp5.yN, .static Cmp5.yN, .code Cmp5.yN Cmp5.yB 7 (some .int), .code CodL.yN CodL.yB 2 (some .byte)]
theorem tab_of {a : Array Value} {s : State} (h : ∀ w ∈ words, w.before a s = true) : New1.tab.before a s = true := by
  have h5 : Cmp5.tab.before a s = true := unparts (wk h (.code Cmp5.yN Cmp5.yB 7 (some .int))) (wks h (.initialized Cmp5.yN.cls :: Cmp5.site))
  have hc : CodL.tab.before a s = true := unparts (wk h (.code CodL.yN CodL.yB 2 (some .byte))) (wks h (.initialized CodL.yN.cls :: CodL.site))
  have q5 : ∀ w ∈ Cmp5.tab :: words, w.before a s = true := fun w hw => (List.mem_cons.mp hw).elim (fun e => e ▸ h5) (h w)
  have h3 : Cmp3.tab.before a s = true := unparts (wk q5 (.code Cmp3.yN Cmp3.yB 6 (some (.array .byte)))) (wks q5 (.initialized Cmp3.yN.cls :: Cmp3.site))
  have q3 : ∀ w ∈ Cmp3.tab :: CodL.tab :: words, w.before a s = true := fun w hw => (List.mem_cons.mp hw).elim (fun e => e ▸ h3) fun hw => (List.mem_cons.mp hw).elim (fun e => e ▸ hc) (h w)
  have h4 : New4.tab.before a s = true := unparts (wk q3 (.code New4.yN New4.yB 6 none)) (wks q3 (.initialized New4.yN.cls :: New4.site))
  have q4 : ∀ w ∈ New4.tab :: words, w.before a s = true := fun w hw => (List.mem_cons.mp hw).elim (fun e => e ▸ h4) (h w)
  exact unparts (wk q4 (.code New1.yN New1.yB 2 none)) (wks q4 (.initialized New1.yN.cls :: New1.site))
/-- the words ride from the start Z to the walk's own state -/
theorem moved {Z s : State} {a0 args : Array Value} (hZ : Z.Warmed39 s.vm) (hw : ∀ d ∈ words, d.before a0 Z = true) : ∀ d ∈ words, d.before args s = true := fun d hd => by
  have q := hw d hd
  have t : ∀ d ∈ words, d = .arrayClass .byte ∨ (d.onTables && d.keepsFace) = true := by decide +kernel
  rcases t d hd with rfl | t
  · exact RoadKit.mvA hZ q
  · exact RoadKit.mv hZ q t
/-- WHAT COMES BACK, over the tables of the start Z: h the heap at the call, h' behind it -/
def Q (Z : State) (x : Addr) (A : Cell) (h : Heap) (v : Option Value) (h' : Heap) (L : List Loc) : Prop := v = none ∧ (∀ y ∈ L, y.base = x) ∧ RoadKit.Keep h h' [x] ∧ h'.size = h.size + 1 ∧ RoadKit.Exa Z h' x ST ∧ RoadKit.Fld Z h' x ST "value" "[B" (.ref h.size) ∧ RoadKit.Fld Z h' x ST "coder" "B" (.int 0) ∧
  (∃ V : Cell, RoadKit.Arr Z h' h.size V .byte ∧ V.vm = .none ∧ Z.vm.findClass "[B" = some V.cls ∧ V.slots.size = A.slots.size ∧ ∀ j, j < A.slots.size → V.slots[j]? = some (.int (lo8 (cv A j)))) ∧
  ∀ (O n d : String) (w : Value), RoadKit.Fld Z h x O n d w → RoadKit.slotOf Z O n d ≠ RoadKit.slotOf Z ST "value" "[B" → RoadKit.slotOf Z O n d ≠ RoadKit.slotOf Z ST "coder" "B" → RoadKit.Fld Z h' x O n d w
/-- **new String(chars) AT A CALL, IN THE ROAD'S FORM**: for specialBack behind newO: x the fresh String, b the char[] with the cell A -/
theorem back {p : Program} {l : Launch} {e : Env} {R : Room} {s : State} {args : Array Value} {below : List Frame} {len W : Nat} {Z : State} {a0 : Array Value} {h : Heap} (hZ : Z.Warmed39 s.vm) (hw : ∀ d ∈ words, d.before a0 Z = true) {kI : Nat} (wi : (Jvm.Cond.instantiable ST kI).before a0 Z = true)
    {x b : Addr} {A : Cell} {z : Int32} {v0 c0 : Value} (E : RoadKit.Exa Z h x ST) (V : RoadKit.Fld Z h x ST "value" "[B" v0) (C : RoadKit.Fld Z h x ST "coder" "B" c0) (K : RoadKit.Arr Z h b A .char) (hty : Typed .char A) (S : RoadKit.Sta Z h ST "COMPACT_STRINGS" "Z" (.int z)) (hz : ¬ z = 0)
    (l0 : 0 < A.slots.size) (l2 : A.slots.size ≤ 536870912) (hp : ∀ i, i < A.slots.size → ¬ 255 < cv A i) (hfr : 4 ≤ R.frames) (hlo : W + 65 ≤ R.locals) :
    Back l R p e below s args New1.yN len W (fun P a => a = #[.ref x, .ref b] ∧ P.U.heap = h ∧ P.cells + 1 ≤ R.cells ∧ P.slots + A.slots.size ≤ R.slots)
      (fun P _ v B => ∃ L, Q Z x A h v B.U.heap L ∧ B.locs = P.locs ++ L ∧ B.cells = P.cells + 1 ∧ B.slots = P.slots + A.slots.size) := by
  intro m meth c P g ig mk a X hg hsize hdg hW hn hp'
  obtain ⟨rfl, rfl, r1, r2⟩ := hp'
  have al : Z.vm.Alike P.U.vm := hZ.alike.trans X.warmed.alike
  obtain ⟨D, cfV, kV, iV, fV, hD, gV, stV, knV, obV, asV, slV⟩ := id V
  obtain ⟨D', cfC, kC, iC, fC, hD', gC, stC, -, -, asC, slC⟩ := id C
  cases hD.symm.trans hD'
  obtain ⟨D2, kD, e1, e2, e3, e4, e5⟩ := id E
  cases hD.symm.trans e1
  obtain ⟨c2, k2, i1, i2, i3, -⟩ := Cond.instantiable_spec wi
  cases e2.symm.trans i1
  cases e3.symm.trans i2
  obtain ⟨kU, u1, u2⟩ := al.2.2 _ _ e3
  have hB : Blank ST x D P.U := ⟨hD, ⟨knV, fun q hq => by rw [hq] at obV; cases obV⟩, by rw [al.findClass]; exact e2, kU, u1, by rw [u2]; exact i3, by rw [u2]; exact e5 i3⟩
  have F1 : Found ST "value" "[B" fV P.U := ⟨SBG.found_only al ⟨cfV, kV, iV, gV⟩, stV⟩
  have F2 : Found ST "coder" "B" fC P.U := ⟨SBG.found_only al ⟨cfC, kC, iC, gC⟩, stC⟩
  have hA : Ch b A P.U := ⟨⟨K.1, State.isArrayOf_alike al K.2.1, K.2.2, by omega⟩, hty⟩
  have hS : StaticIs P.U ST "COMPACT_STRINGS" "Z" (.int z) := by
    obtain ⟨cfS, iS, kS, fS, st, cS, t1, t2, t3, t4, t5, t6, t7⟩ := S
    exact StaticIs.there (s := { Z with heap := P.U.heap }) ⟨cfS, iS, kS, fS, st, cS, t1, t2, t3, t4, t5, (fun q => by rw [q] at t6; cases t6), t7⟩ al rfl
  obtain ⟨v, B, X', ⟨⟨hv, E', V', q1, q2, q3, q4, q5, q6, q7, q8, q9, q10, q11⟩, hl, hc, hs⟩, st⟩ := New1.pays x D fV fC b A z (tab_of (moved hZ hw)) hfr hlo m meth c P g ig mk _ X hg hsize hdg hW hn ⟨r1, r2, rfl, hB, F1, F2, hA, hS, hz, l0, l2, hp⟩
  have al' : Z.vm.Alike B.U.vm := hZ.alike.trans X'.warmed.alike
  have hsz : E'.slots.size = D.slots.size := by
    obtain ⟨-, -, -, kB, w1, w2, w3⟩ := q1
    obtain ⟨kB', y1, y2⟩ := al'.2.2 _ _ e3
    rw [q2.2.1] at w1
    cases w1.symm.trans y1
    rw [w3, e5 i3, y2]
  refine ⟨v, B, X', ⟨_, ⟨hv, ?_, ⟨by omega, fun y cy hy hn' => q10 y cy (by simpa using hn') hy, fun y cy hy => ?_⟩, q11, ⟨E', _, q1.1, by rw [q2.2.1]; exact e2, by rw [q2.2.1]; exact e3, by rw [q2.1]; exact obV, fun _ => by rw [hsz]; exact e5 i3⟩,
    ⟨E', cfV, kV, iV, fV, q1.1, gV, stV, by rw [q2.1]; exact knV, by rw [q2.1]; exact obV, by rw [q2.2.1]; exact asV, q3⟩, ⟨E', cfC, kC, iC, fC, q1.1, gC, stC, by rw [q2.1]; exact knV, by rw [q2.1]; exact obV, by rw [q2.2.1]; exact asC, q4⟩,
    ⟨V', ⟨q5.1, State.isArrayOf_alike al'.symm q5.2.1, q5.2.2.1⟩, q6, by rw [← al'.findClass]; exact q7, q8, fun j hj => by have := q9 j hj; rwa [Nat.zero_add] at this⟩, fun O n d w F n1 n2 => ?_⟩, hl, hc, hs⟩, st⟩
  · intro y hy
    simp only [List.mem_cons, List.not_mem_nil, or_false] at hy
    rcases hy with rfl | rfl <;> rfl
  · by_cases q : y = x
    · subst q
      cases hD.symm.trans hy
      exact ⟨E', q1.1, q2.2.1, q2.1, hsz⟩
    · exact ⟨cy, q10 y cy q hy, rfl, rfl, rfl⟩
  · obtain ⟨D3, cf, k, i, f, g1, g2, g3, g4, g5, g6, g7⟩ := F
    cases hD.symm.trans g1
    simp only [RoadKit.slotOf, g2, gV, gC, Option.map_some, Option.getD_some] at n1 n2
    exact ⟨E', cf, k, i, f, q1.1, g2, g3, by rw [q2.1]; exact g4, by rw [q2.1]; exact g5, by rw [q2.2.1]; exact g6, by rw [q2.2.2 f.slot (by simp [n1, n2])]; exact g7⟩
end StrChars.Road
namespace StrChars.Road
open Jvm Sem ClassFile Op Lib Jvm.Stand Jvm.Free Jvm.Free.XT
/-- WHAT COMES BACK, the byte[] as a list of values -/
def QA (Z : State) (x : Addr) (zn : Int32) (cs : List Int32) (h : Heap) (v : Option Value) (h' : Heap) (L : List Loc) : Prop := v = none ∧ (∀ y ∈ L, y.base = x) ∧ RoadKit.Keep h h' [x] ∧ h'.size = h.size + 1 ∧ RoadKit.Exa Z h' x ST ∧ RoadKit.Fld Z h' x ST "value" "[B" (.ref h.size) ∧ RoadKit.Fld Z h' x ST "coder" "B" (.int 0) ∧
  (∃ kb, Z.vm.findClass "[B" = some kb ∧ RoadKit.Arv Z h' h.size kb .byte zn (cs.map fun c => .int (lo8 c)) (.int 0)) ∧
  ∀ (O n d : String) (w : Value), RoadKit.Fld Z h x O n d w → RoadKit.slotOf Z O n d ≠ RoadKit.slotOf Z ST "value" "[B" → RoadKit.slotOf Z O n d ≠ RoadKit.slotOf Z ST "coder" "B" → RoadKit.Fld Z h' x O n d w
/-- **new String(chars) AT A CALL, THE ARRAYS AS LISTS**: the char[] at b holds cs, not empty, no char above 255 -/
theorem backArv {p : Program} {l : Launch} {e : Env} {R : Room} {s : State} {args : Array Value} {below : List Frame} {len W : Nat} {Z : State} {a0 : Array Value} {h : Heap} (hZ : Z.Warmed39 s.vm) (hw : ∀ d ∈ words, d.before a0 Z = true) {kI : Nat} (wi : (Jvm.Cond.instantiable ST kI).before a0 Z = true)
    {x b : Addr} {k : ClassId} {zn z : Int32} {cs : List Int32} {dv v0 c0 : Value} (E : RoadKit.Exa Z h x ST) (V : RoadKit.Fld Z h x ST "value" "[B" v0) (C : RoadKit.Fld Z h x ST "coder" "B" c0) (K : RoadKit.Arv Z h b k .char zn (cs.map Value.int) dv) (S : RoadKit.Sta Z h ST "COMPACT_STRINGS" "Z" (.int z)) (hz : ¬ z = 0)
    (hlen : zn.toNatClampNeg = cs.length) (h0 : 0 < cs.length) (hbig : cs.length ≤ 536870912) (hall : ∀ c ∈ cs, ¬ 255 < c) (hfr : 4 ≤ R.frames) (hlo : W + 65 ≤ R.locals) :
    Back l R p e below s args New1.yN len W (fun P a => a = #[.ref x, .ref b] ∧ P.U.heap = h ∧ P.cells + 1 ≤ R.cells ∧ P.slots + cs.length ≤ R.slots)
      (fun P _ v B => ∃ L, QA Z x zn cs h v B.U.heap L ∧ B.locs = P.locs ++ L ∧ B.cells = P.cells + 1 ∧ B.slots = P.slots + cs.length) := by
  obtain ⟨A, K1, K2, K3, K4, K5, K6⟩ := K
  have e : A.slots.size = cs.length := K3.trans hlen
  have hat : ∀ (i : Nat) (hi : i < cs.length), A.slots[i]? = some (.int cs[i]) := fun i hi => by rw [K5 i (by omega)]; simp [List.getD_eq_getElem?_getD, hi]
  have hcv : ∀ (i : Nat) (hi : i < cs.length), cv A i = cs[i] := fun i hi => by unfold cv; rw [hat i hi]
  have hty : Typed .char A := fun i v hv => by
    have hi : i < A.slots.size := (Array.getElem?_eq_some_iff.mp hv).1
    have q := K5 i hi
    rw [hv] at q
    rw [Option.some.inj q]
    exact K6 i hi
  refine Back.mono (back hZ hw wi E V C K1 hty S hz (by omega) (by omega) (fun i hi => by rw [hcv i (by omega)]; exact hall _ (List.getElem_mem _)) hfr hlo) (fun P a hp => ⟨hp.1, hp.2.1, hp.2.2.1, by rw [e]; exact hp.2.2.2⟩) (fun P a v B hp hq => ?_)
  obtain ⟨L, ⟨q1, q2, q3, q4, q5, q6, q7, ⟨V', v1, v2, v3, v4, v5⟩, q9⟩, hl, hc, hs⟩ := hq
  refine ⟨L, ⟨q1, q2, q3, q4, q5, q6, q7, ⟨V'.cls, v3, V', v1, rfl, by rw [v4, e, hlen], K4, fun i hi => ?_, fun i hi => ?_⟩, q9⟩, hl, hc, by rw [hs, e]⟩
  · have hi' : i < cs.length := by omega
    rw [v5 i (by omega), hcv i hi']; simp [List.getD_eq_getElem?_getD, hi']
  · have hi' : i < cs.length := by omega
    simp only [List.getD_eq_getElem?_getD, List.getElem?_map, List.getElem?_eq_getElem hi', Option.map_some, Option.getD_some]
    exact fits_lo8 _
end StrChars.Road
namespace StrChars.Road
open Jvm Sem ClassFile Op Lib Jvm.Stand Jvm.Free Jvm.Free.XT
/-- WHAT COMES BACK, in the writer's own shape -/
def QV (Z : State) (x : Addr) (N : Int32) (bs : List Int32) (h : Heap) (n0 : Nat) (v : Option Value) (h' : Heap) (L : List Loc) : Prop := v = none ∧ RoadKit.Fr n0 L ∧ RoadKit.Keep h h' [x] ∧ RoadKit.Exa Z h' x ST ∧ RoadKit.Fld Z h' x ST "coder" "B" (.int 0) ∧
  ∃ (t : Addr) (kb : ClassId), n0 ≤ t ∧ h.size ≤ t ∧ ¬ t = x ∧ RoadKit.Fld Z h' x ST "value" "[B" (.ref t) ∧ RoadKit.Arv Z h' t kb .byte N (bs.map Value.int) (.int 0)
/-- **new String(chars) AT A CALL, FOR THE WRITER**: a char[] of n known ints, each 0 to 255 -/
theorem backV {p : Program} {l : Launch} {e : Env} {R : Room} {s : State} {args : Array Value} {below : List Frame} {len W : Nat} {Z : State} {a0 : Array Value} {h : Heap} (hZ : Z.Warmed39 s.vm) (hw : ∀ d ∈ words, d.before a0 Z = true) {kI : Nat} (wi : (Jvm.Cond.instantiable ST kI).before a0 Z = true)
    {x b : Addr} {kC : ClassId} {cs bs : List Int32} {d v0 c0 : Value} {z N : Int32} {n n0 : Nat} (hx0 : n0 ≤ x) (hh0 : n0 ≤ h.size) (E : RoadKit.Exa Z h x ST) (V : RoadKit.Fld Z h x ST "value" "[B" v0) (C : RoadKit.Fld Z h x ST "coder" "B" c0) (K : RoadKit.Arv Z h b kC .char N (cs.map Value.int) d) (S : RoadKit.Sta Z h ST "COMPACT_STRINGS" "Z" (.int z)) (hz : ¬ z = 0)
    (hn : cs.length = n) (hN : N = Int32.ofNat n) (l0 : 0 < n) (l2 : n ≤ 4000) (hp : ∀ c ∈ cs, ¬ c < 0 ∧ ¬ (255 : Int32) < c) (hb : bs = cs.map (fun c => c.toInt8.toInt32)) (hfr : 4 ≤ R.frames) (hlo : W + 65 ≤ R.locals) :
    Back l R p e below s args (⟨"java/lang/String", "<init>", "([C)V"⟩ : MethodName) len W (fun P a => a = #[.ref x, .ref b] ∧ P.U.heap = h ∧ P.cells + 1 ≤ R.cells ∧ P.slots + n ≤ R.slots)
      (fun P _ v B => ∃ L, QV Z x N bs h n0 v B.U.heap L ∧ B.locs = P.locs ++ L ∧ B.cells = P.cells + 1 ∧ B.slots = P.slots + n) := by
  subst hn hN hb
  refine Back.mono (backArv hZ hw wi E V C K S hz (n32 (by omega)) l0 (by omega) (fun c hc => (hp c hc).2) hfr hlo) (fun P a hp => hp) (fun P a v B hp hq => ?_)
  obtain ⟨L, ⟨q1, q2, q3, q4, q5, q6, q7, ⟨kb, v1, v2⟩, q9⟩, hl, hc, hs⟩ := hq
  exact ⟨L, ⟨q1, fun y hy => by rw [q2 y hy]; exact hx0, q3, q5, q7, h.size, kb, hh0, Nat.le_refl _, Nat.ne_of_gt E.lt, q6, by rw [List.map_map]; exact v2⟩, hl, hc, hs⟩
end StrChars.Road
end Jvm.Pilot.@@N@@
namespace Jvm.Pilot.@@N@@
open Jvm Jvm.ClassFile Sem Op Lib Jvm.Free Jvm.Stand Jvm.LawKit Jvm.RoadKit Bundle Jvm.Pilot.@@N@@.Jvm.D
section OwnPre
def Gl (tb : Tables) (e : Env) (below : List Frame) (P : State → Outcome → Prop) (T : State) (m : MethodId) (pc : Nat) (L : Array Slot) (S : List Value) : Prop := ∃ s₂ o, Steps tb e below (T.setTop (mkF m pc L S)) s₂ ∧ P s₂ o
def Wk (p : Program) (l : Launch) (e : Env) (R : Room) (s : State) (m : MethodId) (args : Array Value) (below : List Frame) (meth : Method) (c : Code) (own : String) (Z : State) (hb : Heap) (ws : List Addr) (I : Heap → Prop) (T : State) (h : Heap) (locs : List Loc) (cells slots : Nat) : Prop :=
  Stand p l e R s m args below meth c T locs cells slots ∧ p.tables.exec = Jvm.exec ∧ T.heap = h ∧ Z.Warmed39 s.vm ∧ s.vm.findClass own = some m.cls ∧ Old Z Z.heap.size h ∧ Fr Z.heap.size locs ∧ Keep hb h ws ∧ I h
variable {p : Program} {l : Launch} {e : Env} {R : Room} {s : State} {m : MethodId} {args : Array Value} {below : List Frame} {meth : Method} {c : Code} {T : State} {locs : List Loc} {cells slots cells' slots' : Nat} {Z : State} {a0 : Array Value} {h hb : Heap} {ws : List Addr} {own : String} {I : Heap → Prop} {P : State → Outcome → Prop} {pc pc' : Nat} {L L' : Array Slot} {S : List Value}
theorem Gl.st {tb : Tables} {T T' : State} {S' : List Value} (k : ∀ target, Steps tb e below (T'.setTop (mkF m pc' L' S')) target → Steps tb e below (T.setTop (mkF m pc L S)) target) (G : Gl tb e below P T' m pc' L' S') : Gl tb e below P T m pc L S := by
  obtain ⟨s2, o, h1, h2⟩ := G
  exact ⟨s2, o, k _ h1, h2⟩
theorem Gl.tr {tb : Tables} {T T' : State} {S' : List Value} (k : Steps tb e below (T.setTop (mkF m pc L S)) (T'.setTop (mkF m pc' L' S'))) (G : Gl tb e below P T' m pc' L' S') : Gl tb e below P T m pc L S := by
  obtain ⟨s2, o, h1, h2⟩ := G
  exact ⟨s2, o, k.trans h1, h2⟩
theorem Wk.ox (W : Wk p l e R s m args below meth c own Z hb ws I T h locs cells slots) : Ext Z.heap h := W.2.2.2.2.2.1.2
theorem Wk.old (W : Wk p l e R s m args below meth c own Z hb ws I T h locs cells slots) : Old Z Z.heap.size h := W.2.2.2.2.2.1
theorem Wk.keep (W : Wk p l e R s m args below meth c own Z hb ws I T h locs cells slots) : Keep hb h ws := W.2.2.2.2.2.2.2.1
theorem Wk.inv (W : Wk p l e R s m args below meth c own Z hb ws I T h locs cells slots) : I h := W.2.2.2.2.2.2.2.2
theorem Wk.zs (W : Wk p l e R s m args below meth c own Z hb ws I T h locs cells slots) : Z.heap.size ≤ h.size := W.ox.1
theorem Wk.al (W : Wk p l e R s m args below meth c own Z hb ws I T h locs cells slots) : Z.vm.Alike s.vm := W.2.2.2.1.alike
theorem own_ne {x b n : Nat} (h1 : x < n) (h2 : n ≤ b) : x ≠ b := Nat.ne_of_lt (Nat.lt_of_lt_of_le h1 h2)
theorem own_ne' {x b n : Nat} (h1 : x < n) (h2 : n ≤ b) : b ≠ x := Ne.symm (own_ne h1 h2)
theorem o_iloadN (W : Wk p l e R s m args below meth c own Z hb ws I T h locs cells slots) {k : Fin 4} {v : Int32} (pc' : Nat) (hd : decode c.code pc = .ok (.iload_n k, 1)) (hl : L[k.val]? = some (.val (.int v))) (hp : pc + 1 = pc') (K : Gl p.tables e below P T m pc' L (.int v :: S)) : Gl p.tables e below P T m pc L S := by
  subst hp; exact Gl.st (fun _ q => XS.iloadN W.1.here W.2.1 rfl hd hl q) K
theorem o_iload (W : Wk p l e R s m args below meth c own Z hb ws I T h locs cells slots) {k : Nat} {v : Int32} (pc' : Nat) (hd : decode c.code pc = .ok (.iload k, 2)) (hl : L[k]? = some (.val (.int v))) (hp : pc + 2 = pc') (K : Gl p.tables e below P T m pc' L (.int v :: S)) : Gl p.tables e below P T m pc L S := by
  subst hp; exact Gl.st (fun _ q => XS.iload W.1.here W.2.1 rfl hd hl q) K
theorem o_istoreN (W : Wk p l e R s m args below meth c own Z hb ws I T h locs cells slots) {k : Fin 4} {v : Int32} {L' : Array Slot} (pc' : Nat) (hd : decode c.code pc = .ok (.istore_n k, 1)) (hl : storeLocals L k.val (.int v) = some L') (hp : pc + 1 = pc') (K : Gl p.tables e below P T m pc' L' S) : Gl p.tables e below P T m pc L (.int v :: S) := by
  subst hp; exact Gl.st (fun _ q => XS.istoreN W.1.here W.2.1 rfl hd rfl hl q) K
theorem o_istore (W : Wk p l e R s m args below meth c own Z hb ws I T h locs cells slots) {k : Nat} {v : Int32} {L' : Array Slot} (pc' : Nat) (hd : decode c.code pc = .ok (.istore k, 2)) (hl : storeLocals L k (.int v) = some L') (hp : pc + 2 = pc') (K : Gl p.tables e below P T m pc' L' S) : Gl p.tables e below P T m pc L (.int v :: S) := by
  subst hp; exact Gl.st (fun _ q => XS.istore W.1.here W.2.1 rfl hd rfl hl q) K
theorem o_aloadN (W : Wk p l e R s m args below meth c own Z hb ws I T h locs cells slots) {k : Fin 4} {v : Value} (pc' : Nat) (hd : decode c.code pc = .ok (.aload_n k, 1)) (hl : L[k.val]? = some (.val v)) (hv : v.isRef = true) (hp : pc + 1 = pc') (K : Gl p.tables e below P T m pc' L (v :: S)) : Gl p.tables e below P T m pc L S := by
  subst hp; exact Gl.st (fun _ q => XS.aloadN W.1.here W.2.1 rfl hd hl hv q) K
theorem o_aload (W : Wk p l e R s m args below meth c own Z hb ws I T h locs cells slots) {k : Nat} {v : Value} (pc' : Nat) (hd : decode c.code pc = .ok (.aload k, 2)) (hl : L[k]? = some (.val v)) (hv : v.isRef = true) (hp : pc + 2 = pc') (K : Gl p.tables e below P T m pc' L (v :: S)) : Gl p.tables e below P T m pc L S := by
  subst hp; exact Gl.st (fun _ q => XS.aload W.1.here W.2.1 rfl hd hl hv q) K
theorem o_astoreN (W : Wk p l e R s m args below meth c own Z hb ws I T h locs cells slots) {k : Fin 4} {v : Value} {L' : Array Slot} (pc' : Nat) (hd : decode c.code pc = .ok (.astore_n k, 1)) (hv : v.isRef = true) (hl : storeLocals L k.val v = some L') (hp : pc + 1 = pc') (K : Gl p.tables e below P T m pc' L' S) : Gl p.tables e below P T m pc L (v :: S) := by
  subst hp; exact Gl.st (fun _ q => XS.astoreN W.1.here W.2.1 rfl hd rfl hv hl q) K
theorem o_astore (W : Wk p l e R s m args below meth c own Z hb ws I T h locs cells slots) {k : Nat} {v : Value} {L' : Array Slot} (pc' : Nat) (hd : decode c.code pc = .ok (.astore k, 2)) (hv : v.isRef = true) (hl : storeLocals L k v = some L') (hp : pc + 2 = pc') (K : Gl p.tables e below P T m pc' L' S) : Gl p.tables e below P T m pc L (v :: S) := by
  subst hp; exact Gl.st (fun _ q => XS.astore W.1.here W.2.1 rfl hd rfl hv hl q) K
theorem o_iconst (W : Wk p l e R s m args below meth c own Z hb ws I T h locs cells slots) {i : Int} {v : Int32} (pc' : Nat) (hd : decode c.code pc = .ok (.iconst i, 1)) (hv : Int32.ofInt i = v) (hp : pc + 1 = pc') (K : Gl p.tables e below P T m pc' L (.int v :: S)) : Gl p.tables e below P T m pc L S := by
  subst hp; exact Gl.st (fun _ q => XT.iconstV W.1.here W.2.1 rfl v hd hv q) K
theorem o_bipush (W : Wk p l e R s m args below meth c own Z hb ws I T h locs cells slots) {i : Int} {v : Int32} (pc' : Nat) (hd : decode c.code pc = .ok (.bipush i, 2)) (hv : (Int8.ofInt i).toInt32 = v) (hp : pc + 2 = pc') (K : Gl p.tables e below P T m pc' L (.int v :: S)) : Gl p.tables e below P T m pc L S := by
  subst hp; exact Gl.st (fun _ q => XT.bipushV W.1.here W.2.1 rfl v hd hv q) K
theorem o_sipush (W : Wk p l e R s m args below meth c own Z hb ws I T h locs cells slots) {i : Int} {v : Int32} (pc' : Nat) (hd : decode c.code pc = .ok (.sipush i, 3)) (hv : (Int16.ofInt i).toInt32 = v) (hp : pc + 3 = pc') (K : Gl p.tables e below P T m pc' L (.int v :: S)) : Gl p.tables e below P T m pc L S := by
  subst hp; exact Gl.st (fun _ q => XT.sipushV W.1.here W.2.1 rfl v hd hv q) K
theorem o_aconstNull (W : Wk p l e R s m args below meth c own Z hb ws I T h locs cells slots)  (pc' : Nat) (hd : decode c.code pc = .ok (.aconst_null, 1)) (hp : pc + 1 = pc') (K : Gl p.tables e below P T m pc' L (.null :: S)) : Gl p.tables e below P T m pc L S := by
  subst hp; exact Gl.st (fun _ q => XS.aconstNull W.1.here W.2.1 rfl hd q) K
theorem o_iadd (W : Wk p l e R s m args below meth c own Z hb ws I T h locs cells slots) {x y v : Int32} (pc' : Nat) (hd : decode c.code pc = .ok (.iadd, 1)) (hv : x + y = v) (hp : pc + 1 = pc') (K : Gl p.tables e below P T m pc' L (.int v :: S)) : Gl p.tables e below P T m pc L (.int y :: .int x :: S) := by
  subst hp; exact Gl.st (fun _ q => XS.iadd W.1.here W.2.1 rfl hd rfl (by rw [hv]; exact q)) K
theorem o_isub (W : Wk p l e R s m args below meth c own Z hb ws I T h locs cells slots) {x y v : Int32} (pc' : Nat) (hd : decode c.code pc = .ok (.isub, 1)) (hv : x - y = v) (hp : pc + 1 = pc') (K : Gl p.tables e below P T m pc' L (.int v :: S)) : Gl p.tables e below P T m pc L (.int y :: .int x :: S) := by
  subst hp; exact Gl.st (fun _ q => XS.isub W.1.here W.2.1 rfl hd rfl (by rw [hv]; exact q)) K
theorem o_iand (W : Wk p l e R s m args below meth c own Z hb ws I T h locs cells slots) {x y v : Int32} (pc' : Nat) (hd : decode c.code pc = .ok (.iand, 1)) (hv : x &&& y = v) (hp : pc + 1 = pc') (K : Gl p.tables e below P T m pc' L (.int v :: S)) : Gl p.tables e below P T m pc L (.int y :: .int x :: S) := by
  subst hp; exact Gl.st (fun _ q => XS.iand W.1.here W.2.1 rfl hd rfl (by rw [hv]; exact q)) K
theorem o_ishl (W : Wk p l e R s m args below meth c own Z hb ws I T h locs cells slots) {x v : Int32} {y : Int32} (pc' : Nat) (hd : decode c.code pc = .ok (.ishl, 1)) (hv : x <<< (y &&& 31) = v) (hp : pc + 1 = pc') (K : Gl p.tables e below P T m pc' L (.int v :: S)) : Gl p.tables e below P T m pc L (.int y :: .int x :: S) := by
  subst hp; exact Gl.st (fun _ q => XS.ishl W.1.here W.2.1 rfl hd rfl (by rw [hv]; exact q)) K
theorem o_ishr (W : Wk p l e R s m args below meth c own Z hb ws I T h locs cells slots) {x v : Int32} {y : Int32} (pc' : Nat) (hd : decode c.code pc = .ok (.ishr, 1)) (hv : x >>> (y &&& 31) = v) (hp : pc + 1 = pc') (K : Gl p.tables e below P T m pc' L (.int v :: S)) : Gl p.tables e below P T m pc L (.int y :: .int x :: S) := by
  subst hp; exact Gl.st (fun _ q => XS.ishr W.1.here W.2.1 rfl hd rfl (by rw [hv]; exact q)) K
theorem o_i2b (W : Wk p l e R s m args below meth c own Z hb ws I T h locs cells slots) {x : Int32} {v : Int32} (pc' : Nat) (hd : decode c.code pc = .ok (.i2b, 1)) (hv : x.toInt8.toInt32 = v) (hp : pc + 1 = pc') (K : Gl p.tables e below P T m pc' L (.int v :: S)) : Gl p.tables e below P T m pc L (.int x :: S) := by
  subst hp; exact Gl.st (fun _ q => XS.i2b W.1.here W.2.1 rfl hd rfl (by rw [hv]; exact q)) K
theorem o_i2c (W : Wk p l e R s m args below meth c own Z hb ws I T h locs cells slots) {x : Int32} {v : Int32} (pc' : Nat) (hd : decode c.code pc = .ok (.i2c, 1)) (hv : x.toUInt32.toUInt16.toUInt32.toInt32 = v) (hp : pc + 1 = pc') (K : Gl p.tables e below P T m pc' L (.int v :: S)) : Gl p.tables e below P T m pc L (.int x :: S) := by
  subst hp; exact Gl.st (fun _ q => XS.i2c W.1.here W.2.1 rfl hd rfl (by rw [hv]; exact q)) K
theorem o_irem (W : Wk p l e R s m args below meth c own Z hb ws I T h locs cells slots) {x y v : Int32} (pc' : Nat) (hd : decode c.code pc = .ok (.irem, 1)) (hy : y ≠ 0) (hv : x % y = v) (hp : pc + 1 = pc') (K : Gl p.tables e below P T m pc' L (.int v :: S)) : Gl p.tables e below P T m pc L (.int y :: .int x :: S) := by
  subst hp; exact Gl.st (fun _ q => iremM W.1 W.2.1 rfl hd rfl hy (by rw [hv]; exact q)) K
theorem o_iinc (W : Wk p l e R s m args below meth c own Z hb ws I T h locs cells slots) {k : Nat} {i : Int} {x v : Int32} {L' : Array Slot} (pc' : Nat) (hd : decode c.code pc = .ok (.iinc k i, 3)) (hl : L[k]? = some (.val (.int x))) (hv : x + Int32.ofInt i = v) (hl' : storeLocals L k (.int v) = some L') (hp : pc + 3 = pc') (K : Gl p.tables e below P T m pc' L' S) : Gl p.tables e below P T m pc L S := by
  subst hp; exact Gl.st (fun _ q => XS.iinc W.1.here W.2.1 rfl hd hl (by rw [hv]; exact hl') q) K
theorem o_dup (W : Wk p l e R s m args below meth c own Z hb ws I T h locs cells slots) {x : Value} (pc' : Nat) (hd : decode c.code pc = .ok (.dup, 1)) (hc : x.category = 1) (hp : pc + 1 = pc') (K : Gl p.tables e below P T m pc' L (x :: x :: S)) : Gl p.tables e below P T m pc L (x :: S) := by
  subst hp; exact Gl.st (fun _ q => XS.dup W.1.here W.2.1 rfl hd rfl hc q) K
theorem o_dupX1 (W : Wk p l e R s m args below meth c own Z hb ws I T h locs cells slots) {x y : Value} (pc' : Nat) (hd : decode c.code pc = .ok (.dup_x1, 1)) (hc : x.category = 1) (hc' : y.category = 1) (hp : pc + 1 = pc') (K : Gl p.tables e below P T m pc' L (x :: y :: x :: S)) : Gl p.tables e below P T m pc L (x :: y :: S) := by
  subst hp; exact Gl.st (fun _ q => XS.dupX1 W.1.here W.2.1 rfl hd rfl hc hc' q) K
theorem o_pop (W : Wk p l e R s m args below meth c own Z hb ws I T h locs cells slots) {x : Value} (pc' : Nat) (hd : decode c.code pc = .ok (.pop, 1)) (hc : x.category = 1) (hp : pc + 1 = pc') (K : Gl p.tables e below P T m pc' L S) : Gl p.tables e below P T m pc L (x :: S) := by
  subst hp; exact Gl.st (fun _ q => XS.pop W.1.here W.2.1 rfl hd rfl hc q) K
theorem o_goto (W : Wk p l e R s m args below meth c own Z hb ws I T h locs cells slots) {o : Int} (pc' : Nat) (hd : decode c.code pc = .ok (.goto o, 3)) (ho : 0 ≤ (pc : Int) + o) (hp : ((pc : Int) + o).toNat = pc') (K : Gl p.tables e below P T m pc' L S) : Gl p.tables e below P T m pc L S := by
  exact Gl.st (fun _ q => XS.goto W.1.here W.2.1 rfl (pc0 := pc) rfl hd ho hp q) K
theorem o_ifY (W : Wk p l e R s m args below meth c own Z hb ws I T h locs cells slots) {o : Int} {cd : ClassFile.Cond} {x : Int32} (pc' : Nat) (hd : decode c.code pc = .ok (.ifCond cd o, 3)) (hc : ifCond.holds cd x = true) (ho : 0 ≤ (pc : Int) + o) (hp : ((pc : Int) + o).toNat = pc') (K : Gl p.tables e below P T m pc' L S) : Gl p.tables e below P T m pc L (.int x :: S) := by
  exact Gl.st (fun _ q => XS.ifYes W.1.here W.2.1 rfl (pc0 := pc) rfl hd rfl hc ho hp q) K
theorem o_ifN (W : Wk p l e R s m args below meth c own Z hb ws I T h locs cells slots) {o : Int} {cd : ClassFile.Cond} {x : Int32} (pc' : Nat) (hd : decode c.code pc = .ok (.ifCond cd o, 3)) (hc : ifCond.holds cd x = false) (hp : pc + 3 = pc') (K : Gl p.tables e below P T m pc' L S) : Gl p.tables e below P T m pc L (.int x :: S) := by
  subst hp; exact Gl.st (fun _ q => XS.ifNo W.1.here W.2.1 rfl hd rfl hc q) K
theorem o_icmpY (W : Wk p l e R s m args below meth c own Z hb ws I T h locs cells slots) {o : Int} {cd : ClassFile.Cond} {x y : Int32} (pc' : Nat) (hd : decode c.code pc = .ok (.if_icmp cd o, 3)) (hc : if_icmp.holds cd x y = true) (ho : 0 ≤ (pc : Int) + o) (hp : ((pc : Int) + o).toNat = pc') (K : Gl p.tables e below P T m pc' L S) : Gl p.tables e below P T m pc L (.int y :: .int x :: S) := by
  exact Gl.st (fun _ q => XS.icmpYes W.1.here W.2.1 rfl (pc0 := pc) rfl hd rfl hc ho hp q) K
theorem o_icmpN (W : Wk p l e R s m args below meth c own Z hb ws I T h locs cells slots) {o : Int} {cd : ClassFile.Cond} {x y : Int32} (pc' : Nat) (hd : decode c.code pc = .ok (.if_icmp cd o, 3)) (hc : if_icmp.holds cd x y = false) (hp : pc + 3 = pc') (K : Gl p.tables e below P T m pc' L S) : Gl p.tables e below P T m pc L (.int y :: .int x :: S) := by
  subst hp; exact Gl.st (fun _ q => XS.icmpNo W.1.here W.2.1 rfl hd rfl hc q) K
theorem o_ifnonnullY (W : Wk p l e R s m args below meth c own Z hb ws I T h locs cells slots) {o : Int} {b : Addr} (pc' : Nat) (hd : decode c.code pc = .ok (.ifnonnull o, 3)) (ho : 0 ≤ (pc : Int) + o) (hp : ((pc : Int) + o).toNat = pc') (K : Gl p.tables e below P T m pc' L S) : Gl p.tables e below P T m pc L (.ref b :: S) := by
  exact Gl.st (fun _ q => XS.ifnonnullYes W.1.here W.2.1 rfl (pc0 := pc) rfl hd rfl ho hp q) K
theorem o_acmpY (W : Wk p l e R s m args below meth c own Z hb ws I T h locs cells slots) {o : Int} {cd : ClassFile.ACond} {x y : Value} (pc' : Nat) (hd : decode c.code pc = .ok (.if_acmp cd o, 3)) (h1 : x.isRef = true) (h2 : y.isRef = true) (hc : XT.acmp cd x y = true) (ho : 0 ≤ (pc : Int) + o) (hp : ((pc : Int) + o).toNat = pc') (K : Gl p.tables e below P T m pc' L S) : Gl p.tables e below P T m pc L (y :: x :: S) := by
  exact Gl.st (fun _ q => XT.acmpYes W.1.here W.2.1 rfl (pc0 := pc) rfl hd rfl h1 h2 hc ho hp q) K
theorem o_getF (W : Wk p l e R s m args below meth c own Z hb ws I T h locs cells slots) {R0 O n d : String} {index : Nat} (w : (Cond.fieldLink own index R0 n d).before a0 Z = true) (via : Via Z R0 O n d) {a : Addr} {v : Value} (F : Fld Z h a O n d v) (pc' : Nat) (hd : decode c.code pc = .ok (.getfield index, 3)) (hp : pc + 3 = pc')
    (K : ∀ T', Wk p l e R s m args below meth c own Z hb ws I T' h locs cells slots → Gl p.tables e below P T' m pc' L (v :: S)) : Gl p.tables e below P T m pc L (.ref a :: S) := by
  subst hp
  obtain ⟨X, hx, eT, hZ, ho, r⟩ := W
  obtain ⟨T', X', e', st⟩ := getF X hx hZ ho (host := "") (Or.inl w) via eT F (g := mkF m pc L (.ref a :: S)) rfl rfl hd
  exact Gl.st st (K T' ⟨X', hx, e', hZ, ho, r⟩)
theorem o_getS (W : Wk p l e R s m args below meth c own Z hb ws I T h locs cells slots) {R0 O n d : String} {index : Nat} (w : (Cond.fieldLink own index R0 n d).before a0 Z = true) (via : Via Z R0 O n d) {v : Value} (F : Sta Z h O n d v) (pc' : Nat) (hd : decode c.code pc = .ok (.getstatic index, 3)) (hp : pc + 3 = pc')
    (K : ∀ T', Wk p l e R s m args below meth c own Z hb ws I T' h locs cells slots → Gl p.tables e below P T' m pc' L (v :: S)) : Gl p.tables e below P T m pc L S := by
  subst hp
  obtain ⟨X, hx, eT, hZ, ho, r⟩ := W
  obtain ⟨T', X', e', st⟩ := getS (host := "") X hx hZ ho w via eT F (g := mkF m pc L S) rfl hd
  exact Gl.st st (K T' ⟨X', hx, e', hZ, ho, r⟩)
theorem o_putF (W : Wk p l e R s m args below meth c own Z hb ws I T h locs cells slots) {R0 O n d C : String} {index kk : Nat} {ty : FieldType} (w : (Cond.fieldLink own index R0 n d).before a0 Z = true) (via : Via Z R0 O n d) {a : Addr} {v v' old : Value} (F : Fld Z h a O n d old) (E : Exa Z h a C)
    (Lz : (Cond.lays C O n d).before a0 Z = true ∨ ((Cond.laysFinal C O n d).before a0 Z = true ∧ own = O ∧ meth.name = "<init>")) (wi : (Cond.instantiable C kk).before a0 Z = true) (hty : parseFieldDescriptor d = some ty) (hn : narrow ty v = v') (hf : fits ty v' = true)
    (g1 : Z.heap.size ≤ a) (g2 : a ∈ ws ∨ hb.size ≤ a) (hI : ∀ h', Wr h h' a (Jvm.RoadKit.slotOf Z O n d) v' → I h') (pc' : Nat) (hd : decode c.code pc = .ok (.putfield index, 3)) (hp : pc + 3 = pc')
    (K : ∀ T' h' locs', Wk p l e R s m args below meth c own Z hb ws I T' h' locs' cells slots → Wr h h' a (Jvm.RoadKit.slotOf Z O n d) v' → Gl p.tables e below P T' m pc' L S) : Gl p.tables e below P T m pc L (v :: .ref a :: S) := by
  subst hp
  obtain ⟨X, hx, eT, hZ, ho, o, fr, kp, i⟩ := W
  obtain ⟨T', h', X', e', Wr', st⟩ := putFN X hx hZ ho w via eT F E Lz wi hty hn hf (g := mkF m pc L (v :: .ref a :: S)) rfl rfl hd
  exact Gl.st st (K T' h' _ ⟨X', hx, e', hZ, ho, o.wr Wr' g1, Fr.snoc X' fr g1, kp.wr Wr' g2, hI _ Wr'⟩ Wr')
theorem o_new (W : Wk p l e R s m args below meth c own Z hb ws I T h locs cells slots) {C : String} {index n : Nat} (w : (Cond.classLink own index C).before a0 Z = true) (wi : (Cond.instantiable C n).before a0 Z = true) (wz : (Cond.initialized C).before a0 Z = true) (hI : ∀ h', Ext h h' → I h')
    (pc' : Nat) (hd : decode c.code pc = .ok (.new index, 3)) (hp : pc + 3 = pc') (hc' : cells + 1 = cells') (hs' : slots + n = slots') (hc : cells' ≤ R.cells) (hs : slots' ≤ R.slots)
    (K : ∀ b T' h', Wk p l e R s m args below meth c own Z hb ws I T' h' locs cells' slots' → Ext h h' → h.size ≤ b → Z.heap.size ≤ b → hb.size ≤ b → Exa Z h' b C → (∀ {O nm d : String} {ty : FieldType}, Laid Z a0 C O nm d → parseFieldDescriptor d = some ty → Fld Z h' b O nm d (defaultValue ty)) → Gl p.tables e below P T' m pc' L (.ref b :: S)) : Gl p.tables e below P T m pc L S := by
  subst hp hc' hs'
  obtain ⟨X, hx, eT, hZ, ho, o, fr, kp, i⟩ := W
  obtain ⟨T', h', X', e', E, A, D, -, st⟩ := newO X hx hZ ho w wi wz eT (g := mkF m pc L S) rfl hd hc hs
  exact Gl.st st (K _ T' h' ⟨X', hx, e', hZ, ho, o.ext E, fr, kp.ext E, hI _ E⟩ E (Nat.le_refl _) o.2.1 kp.1 A D)
theorem o_newP (W : Wk p l e R s m args below meth c own Z hb ws I T h locs cells slots) {aty : ArrayType} (w : (Cond.arrayClass (newarray.typeOf aty)).before a0 Z = true) (hI : ∀ h', Ext h h' → I h') {n : Int32} (hn : ¬ n < 0) {cap : Nat} (hcap : n.toNatClampNeg ≤ cap) (hb8 : cap * 8 ≤ 536870912)
    (pc' : Nat) (hd : decode c.code pc = .ok (.newarray aty, 2)) (hp : pc + 2 = pc') (hc' : cells + 1 = cells') (hs' : slots + cap = slots') (hc : cells' ≤ R.cells) (hs : slots' ≤ R.slots) {vs : List Value} {dv : Value} (hdv : defaultValue (newarray.typeOf aty) = dv) (hv : vs = List.replicate vs.length dv)
    (K : ∀ b T' h' k, Wk p l e R s m args below meth c own Z hb ws I T' h' locs cells' slots' → Ext h h' → h.size ≤ b → Z.heap.size ≤ b → hb.size ≤ b → Arv Z h' b k (newarray.typeOf aty) n vs dv → Gl p.tables e below P T' m pc' L (.ref b :: S)) : Gl p.tables e below P T m pc L (.int n :: S) := by
  subst hp hc' hs' hdv
  obtain ⟨X, hx, eT, hZ, ho, o, fr, kp, i⟩ := W
  obtain ⟨T', h', k, X', e', E, A, st⟩ := newP X hx hZ w eT (g := mkF m pc L (.int n :: S)) rfl hd rfl hn hcap hb8 hc hs
  exact Gl.st st (K _ T' h' k ⟨X', hx, e', hZ, ho, o.ext E, fr, kp.ext E, hI _ E⟩ E (Nat.le_refl _) o.2.1 kp.1 ((Arv.new A hn).pad (by rw [hv]; exact pad_rep [] _ _)))
theorem o_newR (W : Wk p l e R s m args below meth c own Z hb ws I T h locs cells slots) {C : String} {index : Nat} (w1 : (Cond.classLink own index C).before a0 Z = true) (w2 : (Cond.arrayOver (.object C)).before a0 Z = true) (hI : ∀ h', Ext h h' → I h') {n : Int32} (hn : ¬ n < 0) {cap : Nat} (hcap : n.toNatClampNeg ≤ cap) (hb8 : cap * 8 ≤ 536870912)
    (pc' : Nat) (hd : decode c.code pc = .ok (.anewarray index, 3)) (hp : pc + 3 = pc') (hc' : cells + 1 = cells') (hs' : slots + cap = slots') (hc : cells' ≤ R.cells) (hs : slots' ≤ R.slots) {vs : List Value} (hv : vs = List.replicate vs.length .null)
    (K : ∀ b T' h' k, Wk p l e R s m args below meth c own Z hb ws I T' h' locs cells' slots' → Ext h h' → h.size ≤ b → Z.heap.size ≤ b → hb.size ≤ b → Arv Z h' b k (.object C) n vs .null → Ovr Z k C → Gl p.tables e below P T' m pc' L (.ref b :: S)) : Gl p.tables e below P T m pc L (.int n :: S) := by
  subst hp hc' hs'
  obtain ⟨X, hx, eT, hZ, ho, o, fr, kp, i⟩ := W
  obtain ⟨T', h', k, X', e', E, A, O, st⟩ := newR X hx hZ ho w1 w2 eT (g := mkF m pc L (.int n :: S)) rfl hd rfl hn hcap hb8 hc hs
  exact Gl.st st (K _ T' h' k ⟨X', hx, e', hZ, ho, o.ext E, fr, kp.ext E, hI _ E⟩ E (Nat.le_refl _) o.2.1 kp.1 ((Arv.new A hn).pad (by rw [hv]; exact pad_rep [] _ _)) O)
theorem o_len (W : Wk p l e R s m args below meth c own Z hb ws I T h locs cells slots) {a : Addr} {k : ClassId} {ty : FieldType} {z : Int32} {vs : List Value} {dv : Value} (V : Arv Z h a k ty z vs dv) (pc' : Nat) (hd : decode c.code pc = .ok (.arraylength, 1)) (hp : pc + 1 = pc')
    (K : Gl p.tables e below P T m pc' L (.int z :: S)) : Gl p.tables e below P T m pc L (.ref a :: S) := by
  subst hp
  obtain ⟨X, hx, eT, hZ, ho, r⟩ := W
  obtain ⟨cl, A, -, Sz, N, -⟩ := V
  refine Gl.st (X.arraylength hx (by rw [eT]; exact A.1) (State.isArrayOf_alike hZ.alike A.2.1) (g := mkF m pc L (.ref a :: S)) rfl rfl hd) ?_
  rw [len_of Sz N]; exact K
theorem own_inb {z j : Int32} {c : Cell} {i : Nat} (Sz : c.slots.size = z.toNatClampNeg) (hj : j.toNatClampNeg = i) (hj0 : ¬ j < 0) (hi : i < z.toNatClampNeg) : ¬ (j < 0 ∨ c.slots.size ≤ j.toNatClampNeg) := by
  rintro (q | q)
  · exact hj0 q
  · rw [Sz, hj] at q; omega
theorem o_stC (W : Wk p l e R s m args below meth c own Z hb ws I T h locs cells slots) {a : Addr} {k : ClassId} {z : Int32} {vs vs' : List Value} {dv : Value} (V : Arv Z h a k .char z vs dv) {j x x' : Int32} {i : Nat} (hj : j.toNatClampNeg = i) (hj0 : ¬ j < 0) (hi : i < z.toNatClampNeg) (hi' : i < vs.length) (hx' : nar .char x = x') (hv : vs.set i (.int x') = vs')
    (g1 : Z.heap.size ≤ a) (g2 : a ∈ ws ∨ hb.size ≤ a) (hI : ∀ h', Wr h h' a i (.int x') → I h') (pc' : Nat) (hd : decode c.code pc = .ok (.castore, 1)) (hp : pc + 1 = pc')
    (K : ∀ T' h' locs', Wk p l e R s m args below meth c own Z hb ws I T' h' locs' cells slots → Wr h h' a i (.int x') → Arv Z h' a k .char z vs' dv → Gl p.tables e below P T' m pc' L S) : Gl p.tables e below P T m pc L (.int x :: .int j :: .ref a :: S) := by
  subst hp hx' hv
  obtain ⟨X, hx, eT, hZ, ho, o, fr, kp, i'⟩ := W
  obtain ⟨cl, A, q, Sz, N, H, G⟩ := V
  obtain ⟨T', h', X', e', Wr', st⟩ := stC X hx hZ eT A (own_inb Sz hj hj0 hi) (g := mkF m pc L (.int x :: .int j :: .ref a :: S)) rfl rfl hd
  have V' := Arv.set A q Sz N H G (fits_nar_char x) Wr' i hj hi'
  subst hj
  exact Gl.st st (K T' h' _ ⟨X', hx, e', hZ, ho, o.wr Wr' g1, Fr.snoc X' fr g1, kp.wr Wr' g2, hI _ Wr'⟩ Wr' V')
theorem o_stB (W : Wk p l e R s m args below meth c own Z hb ws I T h locs cells slots) {a : Addr} {k : ClassId} {z : Int32} {vs vs' : List Value} {dv : Value} (V : Arv Z h a k .byte z vs dv) {j x x' : Int32} {i : Nat} (hj : j.toNatClampNeg = i) (hj0 : ¬ j < 0) (hi : i < z.toNatClampNeg) (hi' : i < vs.length) (hx' : nar .byte x = x') (hv : vs.set i (.int x') = vs')
    (g1 : Z.heap.size ≤ a) (g2 : a ∈ ws ∨ hb.size ≤ a) (hI : ∀ h', Wr h h' a i (.int x') → I h') (pc' : Nat) (hd : decode c.code pc = .ok (.bastore, 1)) (hp : pc + 1 = pc')
    (K : ∀ T' h' locs', Wk p l e R s m args below meth c own Z hb ws I T' h' locs' cells slots → Wr h h' a i (.int x') → Arv Z h' a k .byte z vs' dv → Gl p.tables e below P T' m pc' L S) : Gl p.tables e below P T m pc L (.int x :: .int j :: .ref a :: S) := by
  subst hp hx' hv
  obtain ⟨X, hx, eT, hZ, ho, o, fr, kp, i'⟩ := W
  obtain ⟨cl, A, q, Sz, N, H, G⟩ := V
  obtain ⟨T', h', X', e', Wr', st⟩ := stB X hx hZ eT A (own_inb Sz hj hj0 hi) (g := mkF m pc L (.int x :: .int j :: .ref a :: S)) rfl rfl hd
  have V' := Arv.set A q Sz N H G (fits_nar_byte x) Wr' i hj hi'
  subst hj
  exact Gl.st st (K T' h' _ ⟨X', hx, e', hZ, ho, o.wr Wr' g1, Fr.snoc X' fr g1, kp.wr Wr' g2, hI _ Wr'⟩ Wr' V')
theorem o_baload (W : Wk p l e R s m args below meth c own Z hb ws I T h locs cells slots) {a : Addr} {k : ClassId} {z : Int32} {vs : List Value} {dv : Value} (V : Arv Z h a k .byte z vs dv) {j x : Int32} {i : Nat} (hj : j.toNatClampNeg = i) (hj0 : ¬ j < 0) (hi : i < z.toNatClampNeg) (hv : vs.getD i dv = .int x) (pc' : Nat) (hd : decode c.code pc = .ok (.baload, 1)) (hp : pc + 1 = pc')
    (K : Gl p.tables e below P T m pc' L (.int x :: S)) : Gl p.tables e below P T m pc L (.int j :: .ref a :: S) := by
  subst hp hj
  obtain ⟨X, hx, eT, hZ, ho, r⟩ := W
  obtain ⟨cl, A, -, Sz, N, H, -⟩ := V
  have hin := own_inb Sz rfl hj0 hi
  exact Gl.st (X.baloadBytes hx (by rw [eT]; exact A.1) (State.isArrayOf_alike hZ.alike A.2.1) A.2.2 hin (H.at hin hv) (g := mkF m pc L (.int j :: .ref a :: S)) rfl rfl hd) K
theorem o_cast (W : Wk p l e R s m args below meth c own Z hb ws I T h locs cells slots) {K0 : String} {index : Nat} (w : (Cond.classLink own index K0).before a0 Z = true) {a : Addr} (F : Ins Z h a K0 true) (pc' : Nat) (hd : decode c.code pc = .ok (.checkcast index, 3)) (hp : pc + 3 = pc')
    (K : ∀ T', Wk p l e R s m args below meth c own Z hb ws I T' h locs cells slots → Gl p.tables e below P T' m pc' L (.ref a :: S)) : Gl p.tables e below P T m pc L (.ref a :: S) := by
  subst hp
  obtain ⟨X, hx, eT, hZ, ho, r⟩ := W
  obtain ⟨T', X', e', st⟩ := castY X hx hZ ho w eT F (g := mkF m pc L (.ref a :: S)) rfl rfl hd
  exact Gl.st st (K T' ⟨X', hx, e', hZ, ho, r⟩)
theorem o_instY (W : Wk p l e R s m args below meth c own Z hb ws I T h locs cells slots) {K0 : String} {index : Nat} (w : (Cond.classLink own index K0).before a0 Z = true) {a : Addr} (F : Ins Z h a K0 true) (pc' : Nat) (hd : decode c.code pc = .ok (.instanceof index, 3)) (hp : pc + 3 = pc')
    (K : ∀ T', Wk p l e R s m args below meth c own Z hb ws I T' h locs cells slots → Gl p.tables e below P T' m pc' L (.int 1 :: S)) : Gl p.tables e below P T m pc L (.ref a :: S) := by
  subst hp
  obtain ⟨X, hx, eT, hZ, ho, r⟩ := W
  obtain ⟨T', X', e', st⟩ := instY X hx hZ ho w eT F (g := mkF m pc L (.ref a :: S)) rfl rfl hd
  exact Gl.st st (K T' ⟨X', hx, e', hZ, ho, r⟩)
theorem o_initO (W : Wk p l e R s m args below meth c own Z hb ws I T h locs cells slots) {idx : Nat} (w1 : (Cond.methodLink own idx Lib.objectInit).before a0 Z = true) (w2 : (Cond.instanceMethod Lib.objectInit).before a0 Z = true) (w3 : (Cond.code Lib.objectInit ⟨#[0xb1]⟩ 1 none).before a0 Z = true) {a : Addr} (hml : L.size = c.maxLocals)
    (pc' : Nat) (hd : decode c.code pc = .ok (.invokespecial idx, 3)) (hp : pc + 3 = pc') (hf : 1 ≤ R.frames) (Wd : Nat) (hW : 2 * 0 + (S.map fun v => v.category).sum ≤ Wd) (hl : Wd + 12 ≤ R.locals)
    (K : ∀ T', Wk p l e R s m args below meth c own Z hb ws I T' h locs cells slots → Gl p.tables e below P T' m pc' L S) : Gl p.tables e below P T m pc L (.ref a :: S) := by
  subst hp
  obtain ⟨X, hx, eT, hZ, ho, r⟩ := W
  obtain ⟨T', X', e', st⟩ := initO X hx hZ ho w1 w2 w3 eT (g := mkF m pc L (.ref a :: S)) rfl hml rfl hd hf hW hl
  exact Gl.st st (K T' ⟨X', hx, e', hZ, ho, r⟩)
abbrev BackQ (l : Launch) (R : Room) (p : Program) (e : Env) (below : List Frame) (s : State) (args : Array Value) (y : MethodName) (len Wd : Nat) (as' : Array Value) (h : Heap) (kc ks : Nat) (Q : Option Value → Heap → List Loc → Prop) : Prop :=
  Back l R p e below s args y len Wd (fun A a => a = as' ∧ A.U.heap = h ∧ A.cells + kc ≤ R.cells ∧ A.slots + ks ≤ R.slots) (fun A _ v B => ∃ L, Q v B.U.heap L ∧ B.locs = A.locs ++ L ∧ B.cells = A.cells + kc ∧ B.slots = A.slots + ks)
theorem o_after (W : Wk p l e R s m args below meth c own Z hb ws I T h locs cells slots) {B : Pt} {v : Option Value} {kc ks : Nat} {Q : Option Value → Heap → List Loc → Prop} {wy : List Addr} (X' : Stand p l e R s m args below meth c B.U B.locs B.cells B.slots) (hpost : ∃ L, Q v B.U.heap L ∧ B.locs = locs ++ L ∧ B.cells = cells + kc ∧ B.slots = slots + ks)
    (hq : ∀ v hh L, Q v hh L → Fr Z.heap.size L ∧ Keep h hh wy) (hg : ∀ x ∈ wy, Z.heap.size ≤ x ∧ (x ∈ ws ∨ hb.size ≤ x)) (hI : ∀ h', Keep h h' wy → I h') :
    ∃ L, Q v B.U.heap L ∧ Keep h B.U.heap wy ∧ Wk p l e R s m args below meth c own Z hb ws I B.U B.U.heap (locs ++ L) (cells + kc) (slots + ks) := by
  obtain ⟨X, hx, eT, hZ, ho, o, fr, kp, i⟩ := W
  obtain ⟨⟨U, lo, kc', ks'⟩, rfl⟩ : ∃ B', B' = B := ⟨_, rfl⟩
  obtain ⟨L', q, e1, e2, e3⟩ := hpost
  have e1 : lo = locs ++ L' := e1
  have e2 : kc' = cells + kc := e2
  have e3 : ks' = slots + ks := e3
  subst e1 e2 e3
  obtain ⟨f, k⟩ := hq _ _ _ q
  exact ⟨L', q, k, X', hx, rfl, hZ, ho, o.keep k (fun x hx => (hg x hx).1), fr.app f, kp.trans k (fun x hx => (hg x hx).2), hI _ k⟩
theorem o_static (W : Wk p l e R s m args below meth c own Z hb ws I T h locs cells slots) {index : Nat} {y : MethodName} {bytes : ByteArray} {maxL : Nat} {ret : Option FieldType} (w1 : (Cond.methodLink own index y).before a0 Z = true) (w2 : (Cond.static y).before a0 Z = true) (w3 : (Cond.initialized y.cls).before a0 Z = true) (w4 : (Cond.code y bytes maxL ret).before a0 Z = true)
    (hy : y.cls ≠ "java/lang/invoke/MethodHandle" ∧ y.cls ≠ "java/lang/invoke/VarHandle") {Wd kc ks : Nat} {Q : Option Value → Heap → List Loc → Prop} {argsL : List Value} (B : BackQ l R p e below s args y 3 Wd argsL.toArray h kc ks Q) (hml : L.size = c.maxLocals)
    (hlen : ∀ sig, parseMethodDescriptor y.desc = some sig → argsL.length = sig.parameters.length) {S0 : List Value} (hS : S0 = argsL.reverse ++ S) (hW : 2 * 0 + (S.map fun v => v.category).sum ≤ Wd) (pc' : Nat) (hd : decode c.code pc = .ok (.invokestatic index, 3)) (hp : pc + 3 = pc')
    (hc' : cells + kc = cells') (hs' : slots + ks = slots') (hc : cells' ≤ R.cells) (hs : slots' ≤ R.slots) {wy : List Addr} (hq : ∀ v hh L, Q v hh L → Fr Z.heap.size L ∧ Keep h hh wy) (hg : ∀ x ∈ wy, Z.heap.size ≤ x ∧ (x ∈ ws ∨ hb.size ≤ x)) (hI : ∀ h', Keep h h' wy → I h')
    (K : ∀ v T' h' Lc, Wk p l e R s m args below meth c own Z hb ws I T' h' (locs ++ Lc) cells' slots' → Keep h h' wy → Q v h' Lc → Gl p.tables e below P T' m pc' L (v.toList ++ S)) : Gl p.tables e below P T m pc L S0 := by
  subst hp hc' hs' hS
  obtain ⟨v, vm₁, B', -, X', hpost, st⟩ := Jvm.LawKit.callS W.1 W.2.1 W.2.2.2.2.1 (mvT W.2.2.2.1 w1) (mvT W.2.2.2.1 w2) (mvT W.2.2.2.1 w3) (mvT W.2.2.2.1 w4) hy B (g := mkF m pc L (argsL.reverse ++ S)) rfl hml hlen rfl hW hd (fun _ _ => ⟨rfl, W.2.2.1, hc, hs⟩)
  obtain ⟨Lc, q, k, W'⟩ := o_after W X' hpost hq hg hI
  exact Gl.st st (K v _ _ Lc W' k q)
theorem o_special (W : Wk p l e R s m args below meth c own Z hb ws I T h locs cells slots) {index : Nat} {y : MethodName} {bytes : ByteArray} {maxL : Nat} (hy1 : y.name = "<init>") (w1 : (Cond.methodLink own index y).before a0 Z = true) (w2 : (Cond.instanceMethod y).before a0 Z = true) (w4 : (Cond.code y bytes maxL none).before a0 Z = true)
    (hy : y.cls ≠ "java/lang/invoke/MethodHandle" ∧ y.cls ≠ "java/lang/invoke/VarHandle") {Wd kc ks : Nat} {Q : Option Value → Heap → List Loc → Prop} {a : Addr} {argsL : List Value} (B : BackQ l R p e below s args y 3 Wd (.ref a :: argsL).toArray h kc ks Q) (hml : L.size = c.maxLocals)
    (hlen : ∀ sig, parseMethodDescriptor y.desc = some sig → argsL.length = sig.parameters.length) {S0 : List Value} (hS : S0 = argsL.reverse ++ .ref a :: S) (hW : 2 * 0 + (S.map fun v => v.category).sum ≤ Wd) (pc' : Nat) (hd : decode c.code pc = .ok (.invokespecial index, 3)) (hp : pc + 3 = pc')
    (hc' : cells + kc = cells') (hs' : slots + ks = slots') (hc : cells' ≤ R.cells) (hs : slots' ≤ R.slots) {wy : List Addr} (hq : ∀ v hh L, Q v hh L → Fr Z.heap.size L ∧ Keep h hh wy) (hg : ∀ x ∈ wy, Z.heap.size ≤ x ∧ (x ∈ ws ∨ hb.size ≤ x)) (hI : ∀ h', Keep h h' wy → I h')
    (K : ∀ v T' h' Lc, Wk p l e R s m args below meth c own Z hb ws I T' h' (locs ++ Lc) cells' slots' → Keep h h' wy → Q v h' Lc → Gl p.tables e below P T' m pc' L (v.toList ++ S)) : Gl p.tables e below P T m pc L S0 := by
  subst hp hc' hs' hS
  obtain ⟨v, vm₁, B', -, X', hpost, st⟩ := W.1.specialBack W.2.1 hy1 W.2.2.2.2.1 (mvT W.2.2.2.1 w1) (mvT W.2.2.2.1 w2) (mvT W.2.2.2.1 w4) hy B (g := mkF m pc L (argsL.reverse ++ .ref a :: S)) rfl hml (Steps.refl _) hlen rfl hW hd (fun _ _ => ⟨rfl, W.2.2.1, hc, hs⟩)
  obtain ⟨Lc, q, k, W'⟩ := o_after W X' hpost hq hg hI
  exact Gl.tr st (K v _ _ Lc W' k q)
theorem o_virtual (W : Wk p l e R s m args below meth c own Z hb ws I T h locs cells slots) {index : Nat} {C : String} {y z : MethodName} (w1 : (Cond.methodLink own index y).before a0 Z = true) (w2 : (Cond.declares y).before a0 Z = true) (hnf : NotFace s y) (w3 : (Cond.selects C y z).before a0 Z = true) (w4 : (Cond.instanceMethod z).before a0 Z = true)
    (hy : y.cls ≠ "java/lang/invoke/MethodHandle" ∧ y.cls ≠ "java/lang/invoke/VarHandle") {Wd kc ks : Nat} {Q : Option Value → Heap → List Loc → Prop} {a : Addr} (E : Exa Z h a C) {argsL : List Value} (B : BackQ l R p e below s args z 3 Wd (.ref a :: argsL).toArray h kc ks Q) (hml : L.size = c.maxLocals)
    (hlen : ∀ sig, parseMethodDescriptor y.desc = some sig → argsL.length = sig.parameters.length) {S0 : List Value} (hS : S0 = argsL.reverse ++ .ref a :: S) (hW : 2 * 0 + (S.map fun v => v.category).sum ≤ Wd) (pc' : Nat) (hd : decode c.code pc = .ok (.invokevirtual index, 3)) (hp : pc + 3 = pc')
    (hc' : cells + kc = cells') (hs' : slots + ks = slots') (hc : cells' ≤ R.cells) (hs : slots' ≤ R.slots) {wy : List Addr} (hq : ∀ v hh L, Q v hh L → Fr Z.heap.size L ∧ Keep h hh wy) (hg : ∀ x ∈ wy, Z.heap.size ≤ x ∧ (x ∈ ws ∨ hb.size ≤ x)) (hI : ∀ h', Keep h h' wy → I h')
    (K : ∀ v T' h' Lc, Wk p l e R s m args below meth c own Z hb ws I T' h' (locs ++ Lc) cells' slots' → Keep h h' wy → Q v h' Lc → Gl p.tables e below P T' m pc' L (v.toList ++ S)) : Gl p.tables e below P T m pc L S0 := by
  subst hp hc' hs' hS
  obtain ⟨cB, kB, q1, q2, q3⟩ := isOf W.2.2.2.1 W.2.2.1 E
  obtain ⟨v, vm₁, B', -, X', hpost, st⟩ := W.1.virtualBack W.2.1 W.2.2.2.2.1 (mvT W.2.2.2.1 w1) (mvT W.2.2.2.1 w2) hnf (mvT W.2.2.2.1 w3) (mvT W.2.2.2.1 w4) hy B q1 q3 (g := mkF m pc L (argsL.reverse ++ .ref a :: S)) rfl hml (Steps.refl _) hlen rfl hW hd (fun _ _ => ⟨rfl, W.2.2.1, hc, hs⟩)
  obtain ⟨Lc, q, k, W'⟩ := o_after W X' hpost hq hg hI
  exact Gl.tr st (K v _ _ Lc W' k q)
theorem o_nf (W : Wk p l e R s m args below meth c own Z hb ws I T h locs cells slots) {C : String} {y z : MethodName} (hyz : y = z) (w : (Cond.selects C y z).before a0 Z = true) : NotFace s y := by
  subst hyz
  exact notFace_of_selects (args := #[]) (mvT W.2.2.2.1 w)
def CtrN (l : Launch) (Z : State) (y : MethodName) (bytes : ByteArray) (maxL : Nat) (ret : Option FieldType) (xs : List Jvm.Cond) (rm : Room) (as' : Array Value) (h0 : Heap) (wy : List Addr) (Q : Option Value → Heap → Prop) : Prop :=
  MetFree l y (head1 (Jvm.Cond.code y bytes maxL ret :: xs) rm) (fun a U => a = as' ∧ Z.Warmed39 U.vm ∧ U.heap = h0) (fun _ _ _ _ _ => True) (fun _ U o U' => ∃ v L, o = .returned v ∧ (Fr Z.heap.size L ∧ Keep h0 U'.heap wy ∧ Q v U'.heap) ∧ FrameEnd U o U' L rm.cells rm.slots)
def PN (s : State) (Z : State) (below : List Frame) (h0 : Heap) (wy : List Addr) (rm : Room) (Q : Option Value → Heap → Prop) (s₂ : State) (o : Outcome) : Prop := s₂.status = .running ∧ Ended s₂ below o ∧ ∃ v L, o = .returned v ∧ (Fr Z.heap.size L ∧ Keep h0 s₂.heap wy ∧ Q v s₂.heap) ∧ FrameEnd s o s₂ L rm.cells rm.slots
theorem own_entry {as : List Value} {n : Nat} {Ls : List Slot} (h : Jvm.Sym.laidSlots as ++ List.replicate (n - (Jvm.Sym.laidSlots as).length) Slot.unset = Ls) (m : MethodId) : entryFrame m as.toArray n = mkF m 0 Ls.toArray [] := by
  have e : argsToLocals as.toArray n = Ls.toArray := Array.toList_inj.mp ((Jvm.Sym.argsToLocals_toList _ _).trans h)
  exact congrArg (fun L => mkF m 0 L []) e
theorem CtrN.intro {y : MethodName} {bytes : ByteArray} {maxL : Nat} {ret : Option FieldType} {xs : List Jvm.Cond} {rm : Room} {as' : Array Value} {h0 : Heap} {wy : List Addr} {Q : Option Value → Heap → Prop} {L0 : Array Slot} (hx : plainFor y = true) (O : Old Z Z.heap.size h0) (hef : ∀ m, entryFrame m as' maxL = mkF m 0 L0 [])
    (body : ∀ (p : Program) (e : Env) (s : State) (m : MethodId) (below : List Frame) (meth : Method) (c : Code) (T : State), c.code = bytes → c.maxLocals = maxL → meth.sig.returnType = ret → meth.locks = false → meth.name = y.name → Wk p l e rm s m as' below meth c y.cls Z h0 wy (fun _ => True) T h0 [] 0 0 → Gl p.tables e below (PN s Z below h0 wy rm Q) T m 0 L0 []) :
    CtrN l Z y bytes maxL ret xs rm as' h0 wy Q := by
  refine MetFree.of_bodySF hx hisR ?_
  intro p e s m args below meth c s₁ Bd hml hP hK
  obtain ⟨rfl, hZ, hh⟩ := hP
  have e0 : s₁.heap = h0 := by rw [← hh, Bd.state]; rfl
  obtain ⟨s2, o, g1, g2, g3, g4⟩ := body p e s m below meth c s₁ Bd.bytes hml Bd.returns Bd.notSynchronized (name_of_methodNamed Bd.named Bd.method).1 ⟨Stand.of_body Bd, Bd.exec, e0, hZ, findClass_of_methodNamed Bd.named, O, Fr.nil _, Keep.refl _ _, trivial⟩
  exact ⟨s2, o, castTop (hef m) g1, g2, g3, g4⟩
theorem CtrN.back {y : MethodName} {bytes : ByteArray} {maxL : Nat} {ret : Option FieldType} {rm : Room} {as' : Array Value} {wy : List Addr} {Q : Option Value → Heap → Prop} {len Wd : Nat} (W : Wk p l e R s m args below meth c own Z hb ws I T h locs cells slots) (C : CtrN l Z y bytes maxL ret [] rm as' h wy Q) (wc : (Cond.code y bytes maxL ret).before a0 Z = true) (wz : (Cond.initialized y.cls).before a0 Z = true)
    (hf : rm.frames + 1 ≤ R.frames) (hl : Wd + (maxL + 11) + rm.locals ≤ R.locals) : BackQ l R p e below s args y len Wd as' h rm.cells rm.slots (fun v hh L => Fr Z.heap.size L ∧ Keep h hh wy ∧ Q v hh) :=
  backOf (Q := fun v hh L => Fr Z.heap.size L ∧ Keep h hh wy ∧ Q v hh) C W.2.2.2.1 wc wz hf hl
theorem o_leaveN {y0 : List Addr} {Q : Option Value → Heap → Prop} {rm : Room} (W : Wk p l e rm s m args below meth c own Z hb ws I T h locs cells slots) (hlk : meth.locks = false) {v : Option Value} (hv : meth.sig.returnType = none → v = none) (hq : Q v h) (hc : cells ≤ rm.cells) (hs : slots ≤ rm.slots) (st : ∀ fs, (∀ (f : JFrame) (acts : List Action), f.method = m → f.locked = none → f.entered = [] → (doReturn e (T.setTop f) acts v).1 = T.setFrames fs) → Steps p.tables e below (T.setTop (mkF m pc L S)) (T.setFrames fs)) :
    Gl p.tables e below (PN s Z below hb ws rm Q) T m pc L S := by
  obtain ⟨X, hx, eT, hZ, ho, o, fr, kp, i⟩ := W
  obtain ⟨fs, hr, hrun, hended, hW, hsame⟩ := X.leave (v := v) hv
  have eh : (T.setFrames fs).heap = h := eT
  exact ⟨_, _, st fs hr, hrun, hended, v, locs, rfl, ⟨fr, by rw [eh]; exact kp, by rw [eh]; exact hq⟩, ⟨_, rfl⟩, hW, hsame.mono hc hs⟩
theorem o_retI (W : Wk p l e R s m args below meth c own Z hb ws I T h locs cells slots) (hlk : meth.locks = false) {Q : Option Value → Heap → Prop} {z : Int32} (hret : meth.sig.returnType = some .int) (hd : decode c.code pc = .ok (.ireturn, 1)) (hc : cells ≤ R.cells) (hs : slots ≤ R.slots) (hq : Q (some (.int z)) h) : Gl p.tables e below (PN s Z below hb ws R Q) T m pc L (.int z :: S) :=
  o_leaveN (y0 := []) W hlk (fun q => by rw [hret] at q; cases q) hq hc hs fun fs hr => retOut W.1 W.2.1 hret rfl (Or.inl ⟨rfl, Or.inl rfl, _, rfl⟩) hd hr
theorem o_retN (W : Wk p l e R s m args below meth c own Z hb ws I T h locs cells slots) (hlk : meth.locks = false) {Q : Option Value → Heap → Prop} {z z' : Int32} {t : FieldType} (hret : meth.sig.returnType = some t) (ht : t = .boolean ∨ t = .byte ∨ t = .char ∨ t = .short) (hz : nar t z = z') (hd : decode c.code pc = .ok (.ireturn, 1)) (hc : cells ≤ R.cells) (hs : slots ≤ R.slots) (hq : Q (some (.int z')) h) : Gl p.tables e below (PN s Z below hb ws R Q) T m pc L (.int z :: S) := by
  subst hz
  exact o_leaveN (y0 := []) W hlk (fun q => by rw [hret] at q; cases q) hq hc hs fun fs hr => retN W.1 W.2.1 hret ht hd hr
theorem o_retA (W : Wk p l e R s m args below meth c own Z hb ws I T h locs cells slots) (hlk : meth.locks = false) {Q : Option Value → Heap → Prop} {t : FieldType} {v : Value} (hret : meth.sig.returnType = some t) (ht : t.isReference = true) (hv : v.isRef = true) (hd : decode c.code pc = .ok (.areturn, 1)) (hc : cells ≤ R.cells) (hs : slots ≤ R.slots) (hq : Q (some v) h) : Gl p.tables e below (PN s Z below hb ws R Q) T m pc L (v :: S) :=
  o_leaveN (y0 := []) W hlk (fun q => by rw [hret] at q; cases q) hq hc hs fun fs hr => retOut W.1 W.2.1 hret (by cases v <;> first | (cases hv; done) | (cases t <;> first | (cases ht; done) | rfl)) (Or.inr (Or.inr (Or.inr (Or.inr ⟨rfl, ht, hv⟩)))) hd hr
theorem o_ret0 (W : Wk p l e R s m args below meth c own Z hb ws I T h locs cells slots) (hlk : meth.locks = false) {Q : Option Value → Heap → Prop} (hret : meth.sig.returnType = none) (hd : decode c.code pc = .ok (.return_, 1)) (hc : cells ≤ R.cells) (hs : slots ≤ R.slots) (hq : Q none h) : Gl p.tables e below (PN s Z below hb ws R Q) T m pc L [] :=
  o_leaveN (y0 := []) W hlk (fun _ => rfl) hq hc hs fun fs hr => W.1.returnOut W.2.1 hret hd hr
end OwnPre

section OwnWide
def IW (s : State) (Z : State) (EL : List (String × Nat)) (V : Vm) (h : Heap) : Prop := (∃ k0, s.Since V k0 ∧ k0 ≤ h.size) ∧ CHv Z EL V h ∧ CHr Z EL s.vm s.heap V h
variable {p : Program} {l : Launch} {e : Env} {R : Room} {s : State} {m : MethodId} {args : Array Value} {below : List Frame} {meth : Method} {c : Code} {T : State} {locs : List Loc} {cells slots cells' slots' : Nat} {Z : State} {a0 : Array Value} {h h' hb : Heap} {ws : List Addr} {own : String} {P : State → Outcome → Prop} {pc pc' : Nat} {L L' : Array Slot} {S : List Value} {EL : List (String × Nat)} {V : Vm}
theorem IW.ext (E : Ext h h') (i : IW s Z EL V h) : IW s Z EL V h' := by
  obtain ⟨⟨k0, h1, h2⟩, h3, h4⟩ := i
  exact ⟨⟨k0, h1, Nat.le_trans h2 E.1⟩, h3.ext E, h4.trans (CHr.ext E h3)⟩
theorem IW.wr {a : Addr} {sl : Nat} {v : Value} (W : Wr h h' a sl v) (S : Safe Z EL V h a) (i : IW s Z EL V h) : IW s Z EL V h' := by
  obtain ⟨⟨k0, h1, h2⟩, h3, h4⟩ := i
  exact ⟨⟨k0, h1, by rw [W.size]; exact h2⟩, h3.wr W S, h4.trans (CHr.wr W S h3)⟩
theorem IW.keep {wy : List Addr} (K : Keep h h' wy) (hs : ∀ x ∈ wy, Safe Z EL V h x) (i : IW s Z EL V h) : IW s Z EL V h' := by
  obtain ⟨⟨k0, h1, h2⟩, h3, h4⟩ := i
  exact ⟨⟨k0, h1, Nat.le_trans h2 K.1⟩, h3.keep K hs, h4.trans (CHr.keep K hs h3)⟩
theorem own_safeS {vm : Vm} {x : Addr} (hal : Z.vm.Alike vm) (E : Exa Z h x "java/lang/String") (F : Fld Z h x "java/lang/String" "value" "[B" .null) : Safe Z EL vm h x := fun B => by
  obtain ⟨pp, -, u, a, -, q, -, G, rfl | rfl⟩ := B
  · obtain ⟨cS, ⟨⟨g1, -, -, ⟨c1, k1, i1, f1, -⟩, -, -, -, v1, -⟩, -⟩, -⟩ := G
    obtain ⟨cell, cf, k, i, f, h1, h2, h3, h4, h5, h6, h7⟩ := F
    cases h1.symm.trans g1
    obtain ⟨k3, e3, -⟩ := State.fieldFound?_setVm (s := Z) hal h2
    have e4 := (show (Wst Z vm h).fieldFound? _ _ _ = _ from e3).symm.trans f1
    simp only [Option.some.injEq, Prod.mk.injEq] at e4
    rw [e4.2.2.2] at h7
    rw [h7] at v1
    simp at v1
  · have hA : (Wst Z vm h).isArrayOf q.SA .byte := by
      obtain ⟨cS, ⟨⟨-, -, -, -, -, -, -, -, -, -, g11, -⟩, -⟩, -⟩ := G
      exact g11
    have hc := G.hd
    obtain ⟨cell, k, h1, h2, h3, -, -⟩ := E
    cases h1.symm.trans hc
    obtain ⟨cS, -, -, hB, -⟩ := G
    have hB' : vm.findClass "[B" = some q.SA.cls := hB
    rw [hal.findClass] at hB'
    obtain ⟨ka, a1, a2⟩ := Vm.findClass_spec hB'
    obtain ⟨kb, b1, b2⟩ := Vm.findClass_spec h2
    cases a1.symm.trans b1
    rw [a2] at b2
    exact absurd b2 (by decide)
def ELn (Z : State) (a0 : Array Value) (EL : List (String × Nat)) (n : Nat) : Prop := ∀ p ∈ EL, ∃ text : String, (Cond.stringLink p.1 p.2 text).before a0 Z = true ∧ (∀ c ∈ text.toList, c.toNat < 256) ∧ text.toList.length ≠ n
theorem ELn.nil {n : Nat} : ELn Z a0 [] n := fun _ hp => by cases hp
theorem ELn.cons {n index : Nat} {text : String} (w : (Cond.stringLink own index text).before a0 Z = true) (ht : ∀ c ∈ text.toList, c.toNat < 256) (hn : text.toList.length ≠ n) (E : ELn Z a0 EL n) : ELn Z a0 ((own, index) :: EL) n := fun p hp => by
  rcases List.mem_cons.mp hp with rfl | hp
  · exact ⟨text, w, ht, hn⟩
  · exact E p hp
theorem own_safeB {vm : Vm} {x : Addr} {k : ClassId} {z : Int32} {vs : List Value} {dv : Value} {n : Nat} (hW : Z.Warmed39 vm) (hn : z.toNatClampNeg = n) (N : ELn Z a0 EL n) (F : Arv Z h x k .byte z vs dv) : Safe Z EL vm h x := fun B => by
  have hal : Z.vm.Alike vm := hW.alike
  obtain ⟨cl, ⟨A1, ⟨-, kA, hkA, compA, hkindA⟩, -⟩, -, hsz, -⟩ := F
  obtain ⟨kA', hkA', ekA⟩ := hal.2.2 _ _ hkA
  obtain ⟨pp, hp, u, a, hb, q, -, G, rfl | rfl⟩ := B
  · cases (show h[q.sa]? = some q.sC from G.ha).symm.trans A1
    obtain ⟨cS, ⟨-, -, e⟩, ⟨kS, g1, g2, -⟩, -⟩ := G
    subst e
    cases (show vm.classes[q.sC.cls]? = some kS from g1).symm.trans hkA'
    rw [ekA] at g2
    have := hkindA.symm.trans g2
    cases this
  · cases (show h[q.sd]? = some q.SA from G.hd).symm.trans A1
    obtain ⟨cS, -, -, -, hbyt⟩ := G
    obtain ⟨text, w, ht, hne⟩ := N pp hp
    have w2 : (Cond.stringLink pp.1 pp.2 text).before a0 (Wst Z vm h) = true := mvS (s := { Z with heap := h }) hW w
    obtain ⟨c1, k1, cf, i, f1, f2, f3, f4, f5, -⟩ := hb
    obtain ⟨k0', cf', i', units, hkx, hcf, hpl, hu, -, htext, -⟩ := Cond.stringLink_spec (s := Wst Z vm h) f1 w2
    have hkx : vm.classes[c1]? = some k0' := hkx
    cases f2.symm.trans hkx
    cases f3.symm.trans hcf
    cases f4.symm.trans hpl
    cases f5.symm.trans hu
    rw [hbyt, Jvm.Free.SBG.stringBytes_lat (Jvm.ClassFile.lat_of_text htext ht), Array.size_map] at hsz
    have el := congrArg List.length (Jvm.ClassFile.units_of_text htext ht)
    simp only [Array.length_toList, List.length_map] at el
    omega
theorem o_ldcR (W : Wk p l e R (s.setVm V) m args below meth c own Z hb ws (IW s Z EL V) T h locs cells slots) {text : String} {index : Nat} (w : (Cond.stringLink own index text).before a0 Z = true) (wS : ∀ a ∈ Bundle.stringAtoms, a.before a0 Z = true) (hEL : EW Z a0 EL) (hmem : (own, index) ∈ EL) (pc' : Nat) (hd : decode c.code pc = .ok (.ldc index, 2)) (hp : pc + 2 = pc') {n : Nat} (hn : 4 * text.toList.length ≤ n) (hbig : n ≤ 536870912)
    (hc' : cells + 2 = cells') (hs' : slots + (n + 4) = slots') (hc : cells' ≤ R.cells) (hs : slots' ≤ R.slots) {vs : List Value} {z : Int32} (ht : (∀ c ∈ text.toList, c.toNat < 256) ∧ text.toList.map (fun c => Value.int (Jvm.Lit.byteI c.toNat.toUInt16)) = vs) (hz : ¬ z < 0) (hl : z.toNatClampNeg = vs.length)
    (K : ∀ a T' h' V' b k, Wk p l e R (s.setVm V') m args below meth c own Z hb ws (IW s Z EL V') T' h' locs cells' slots' → Ext h h' → CHr Z EL V h V' h' → Exa Z h' a "java/lang/String" → Fld Z h' a "java/lang/String" "coder" "B" (.int 0) → Fld Z h' a "java/lang/String" "value" "[B" (.ref b) → Arv Z h' b k .byte z vs (.int 0) → (∀ x, Safe Z EL V' h' x → x ≠ a ∧ x ≠ b) → Gl p.tables e below P T' m pc' L (.ref a :: S)) : Gl p.tables e below P T m pc L S := by
  subst hp hc' hs'
  obtain ⟨X, hx, eT, hZ, ho, o, fr, kp, ⟨k0, i1, i2⟩, i3, i4⟩ := W
  obtain ⟨a, T', h', k1, b, k, X', e', E, hS, hk, hW, hf, A1, A2, A3, A4, -, -, hC, -, hne, st⟩ := ldcCH X hx hZ ho w wS eT i1 i2 hEL hmem i3 ht hz hl (g := mkF m pc L S) rfl hd hn hbig hc hs
  exact Gl.st st (K a T' h' T'.vm b k ⟨X', hx, e', hW, hf, o.ext E, fr, kp.ext E, ⟨k1, hS, hk⟩, hC.1, i4.trans hC⟩ E hC A1 A2 A3 A4 hne)
def CtrW (l : Launch) (Z : State) (EL : List (String × Nat)) (y : MethodName) (bytes : ByteArray) (maxL : Nat) (ret : Option FieldType) (xs : List Jvm.Cond) (rm : Room) (as' : Array Value) (h0 : Heap) (wy : List Addr) (Q : Option Value → Heap → Prop) : Prop :=
  MetFree l y (head1 (Jvm.Cond.code y bytes maxL ret :: xs) rm) (fun a U => a = as' ∧ Z.Warmed39 U.vm ∧ U.heap = h0 ∧ CHv Z EL U.vm h0) (fun _ _ _ _ _ => True) (fun _ U o U' => ∃ v L, o = .returned v ∧ (Fr Z.heap.size L ∧ Keep h0 U'.heap wy ∧ Q v U'.heap) ∧ CHr Z EL U.vm U.heap U'.vm U'.heap ∧ ReturnedEndW U o U' L rm.cells rm.slots)
def PW (s : State) (Z : State) (EL : List (String × Nat)) (below : List Frame) (h0 : Heap) (wy : List Addr) (rm : Room) (Q : Option Value → Heap → Prop) (s₂ : State) (o : Outcome) : Prop := s₂.status = .running ∧ Ended s₂ below o ∧ ∃ v L, o = .returned v ∧ (Fr Z.heap.size L ∧ Keep h0 s₂.heap wy ∧ Q v s₂.heap) ∧ CHr Z EL s.vm s.heap s₂.vm s₂.heap ∧ ReturnedEndW s o s₂ L rm.cells rm.slots
theorem CtrW.intro {y : MethodName} {bytes : ByteArray} {maxL : Nat} {ret : Option FieldType} {xs : List Jvm.Cond} {rm : Room} {as' : Array Value} {h0 : Heap} {wy : List Addr} {Q : Option Value → Heap → Prop} {L0 : Array Slot} (hx : plainFor y = true) (O : Old Z Z.heap.size h0) (hef : ∀ m, entryFrame m as' maxL = mkF m 0 L0 [])
    (body : ∀ (p : Program) (e : Env) (s : State) (m : MethodId) (below : List Frame) (meth : Method) (c : Code) (T : State) (V : Vm), c.code = bytes → c.maxLocals = maxL → meth.sig.returnType = ret → meth.locks = false → meth.name = y.name → Wk p l e rm (s.setVm V) m as' below meth c y.cls Z h0 wy (IW s Z EL V) T h0 [] 0 0 → Gl p.tables e below (PW s Z EL below h0 wy rm Q) T m 0 L0 []) :
    CtrW l Z EL y bytes maxL ret xs rm as' h0 wy Q := by
  refine MetFree.of_bodySF hx hisR ?_
  intro p e s m args below meth c s₁ Bd hml hP hK
  obtain ⟨rfl, hZ, hh, hH⟩ := hP
  have e0 : s₁.heap = h0 := by rw [← hh, Bd.state]; rfl
  have hr : CHr Z EL s.vm s.heap s.vm h0 := by rw [hh]; exact CHr.refl hH
  have X : Stand p l e rm (s.setVm s.vm) m args below meth c s₁ [] 0 0 := Stand.of_body Bd
  obtain ⟨s2, o, g1, g2, g3, g4⟩ := body p e s m below meth c s₁ s.vm Bd.bytes hml Bd.returns Bd.notSynchronized (name_of_methodNamed Bd.named Bd.method).1 ⟨X, Bd.exec, e0, hZ, findClass_of_methodNamed Bd.named, O, Fr.nil _, Keep.refl _ _, ⟨0, (State.WarmedH.refl s).since _, Nat.zero_le _⟩, hH, hr⟩
  exact ⟨s2, o, castTop (hef m) g1, g2, g3, g4⟩
abbrev BackSQ (l : Launch) (R : Room) (p : Program) (e : Env) (below : List Frame) (s : State) (args : Array Value) (y : MethodName) (len Wd : Nat) (as' : Array Value) (h : Heap) (kc ks : Nat) (Q : Option Value → Heap → List Loc → Prop) (Z : State) (EL : List (String × Nat)) (V : Vm) : Prop :=
  BackS l R p e below s args y len Wd (fun A a => a = as' ∧ A.U.heap = h ∧ A.cells + kc ≤ R.cells ∧ A.slots + ks ≤ R.slots) (fun A _ v B => ∃ L, Q v B.U.heap L ∧ B.locs = A.locs ++ L ∧ B.cells = A.cells + kc ∧ B.slots = A.slots + ks ∧ CHr Z EL V h B.U.vm B.U.heap)
theorem CtrW.back {y : MethodName} {bytes : ByteArray} {maxL : Nat} {ret : Option FieldType} {rm : Room} {as' : Array Value} {wy : List Addr} {Q : Option Value → Heap → Prop} {len Wd : Nat} (W : Wk p l e R (s.setVm V) m args below meth c own Z hb ws (IW s Z EL V) T h locs cells slots) (C : CtrW l Z EL y bytes maxL ret [] rm as' h wy Q) (wc : (Cond.code y bytes maxL ret).before a0 Z = true) (wz : (Cond.initialized y.cls).before a0 Z = true)
    (hf : rm.frames + 1 ≤ R.frames) (hl : Wd + (maxL + 11) + rm.locals ≤ R.locals) (hEL : EW Z a0 EL) : BackSQ l R p e below (s.setVm V) args y len Wd as' h rm.cells rm.slots (fun v hh L => Fr Z.heap.size L ∧ Keep h hh wy ∧ Q v hh) Z EL V :=
  backOfSH (s := s) (Q := fun v hh L => Fr Z.heap.size L ∧ Keep h hh wy ∧ Q v hh) C W.2.2.2.1 wc wz hf hl hEL W.inv.2.1
theorem o_afterW (W : Wk p l e R (s.setVm V) m args below meth c own Z hb ws (IW s Z EL V) T h locs cells slots) {B : Pt} {v : Option Value} {kc ks : Nat} {Q : Option Value → Heap → List Loc → Prop} {wy : List Addr} (X' : Stand p l e R ((s.setVm V).setVm B.U.vm) m args below meth c B.U B.locs B.cells B.slots) (hS : (s.setVm V).Since B.U.vm B.U.heap.size) (hgr : T.heap.size ≤ B.U.heap.size) (hpost : ∃ L, Q v B.U.heap L ∧ B.locs = locs ++ L ∧ B.cells = cells + kc ∧ B.slots = slots + ks ∧ CHr Z EL V h B.U.vm B.U.heap)
    (hq : ∀ v hh L, Q v hh L → Fr Z.heap.size L ∧ Keep h hh wy) (hg : ∀ x ∈ wy, Z.heap.size ≤ x ∧ (x ∈ ws ∨ hb.size ≤ x)) :
    ∃ L, Q v B.U.heap L ∧ Keep h B.U.heap wy ∧ CHr Z EL V h B.U.vm B.U.heap ∧ Wk p l e R (s.setVm B.U.vm) m args below meth c own Z hb ws (IW s Z EL B.U.vm) B.U B.U.heap (locs ++ L) (cells + kc) (slots + ks) := by
  obtain ⟨X, hx, eT, hZ, ho, o, fr, kp, ⟨k0, i1, i2⟩, i3, i4⟩ := W
  obtain ⟨⟨U, lo, kc', ks'⟩, rfl⟩ : ∃ B', B' = B := ⟨_, rfl⟩
  obtain ⟨L', q, e1, e2, e3, hC⟩ := hpost
  have e1 : lo = locs ++ L' := e1
  have e2 : kc' = cells + kc := e2
  have e3 : ks' = slots + ks := e3
  subst e1 e2 e3
  obtain ⟨f, k⟩ := hq _ _ _ q
  obtain ⟨Y, hS2, hZ2, ho2⟩ := rebS (n1 := T.heap.size) i1 (by rw [eT]; exact i2) X' hS hgr hZ ho
  exact ⟨L', q, k, hC, Y, hx, rfl, hZ2, ho2, o.keep k (fun x hx => (hg x hx).1), fr.app f, kp.trans k (fun x hx => (hg x hx).2), ⟨_, hS2, Nat.le_refl _⟩, hC.1, i4.trans hC⟩
theorem o_specialW (W : Wk p l e R (s.setVm V) m args below meth c own Z hb ws (IW s Z EL V) T h locs cells slots) {index : Nat} {y : MethodName} {bytes : ByteArray} {maxL : Nat} (hy1 : y.name = "<init>") (w1 : (Cond.methodLink own index y).before a0 Z = true) (w2 : (Cond.instanceMethod y).before a0 Z = true) (w4 : (Cond.code y bytes maxL none).before a0 Z = true)
    (hy : y.cls ≠ "java/lang/invoke/MethodHandle" ∧ y.cls ≠ "java/lang/invoke/VarHandle") {Wd kc ks : Nat} {Q : Option Value → Heap → List Loc → Prop} {a : Addr} {argsL : List Value} (B : BackSQ l R p e below (s.setVm V) args y 3 Wd (.ref a :: argsL).toArray h kc ks Q Z EL V) (hml : L.size = c.maxLocals)
    (hlen : ∀ sig, parseMethodDescriptor y.desc = some sig → argsL.length = sig.parameters.length) {S0 : List Value} (hS : S0 = argsL.reverse ++ .ref a :: S) (hW : 2 * 0 + (S.map fun v => v.category).sum ≤ Wd) (pc' : Nat) (hd : decode c.code pc = .ok (.invokespecial index, 3)) (hp : pc + 3 = pc')
    (hc' : cells + kc = cells') (hs' : slots + ks = slots') (hc : cells' ≤ R.cells) (hs : slots' ≤ R.slots) {wy : List Addr} (hq : ∀ v hh L, Q v hh L → Fr Z.heap.size L ∧ Keep h hh wy) (hg : ∀ x ∈ wy, Z.heap.size ≤ x ∧ (x ∈ ws ∨ hb.size ≤ x))
    (K : ∀ v T' h' V' Lc, Wk p l e R (s.setVm V') m args below meth c own Z hb ws (IW s Z EL V') T' h' (locs ++ Lc) cells' slots' → Keep h h' wy → CHr Z EL V h V' h' → Q v h' Lc → Gl p.tables e below P T' m pc' L (v.toList ++ S)) : Gl p.tables e below P T m pc L S0 := by
  subst hp hc' hs' hS
  obtain ⟨v, vm₁, B', -, X', hS, hgr, hpost, st⟩ := W.1.specialBackS W.2.1 hy1 W.2.2.2.2.1 (mvT W.2.2.2.1 w1) (mvT W.2.2.2.1 w2) (mvT W.2.2.2.1 w4) hy B (g := mkF m pc L (argsL.reverse ++ .ref a :: S)) rfl hml (Steps.refl _) hlen rfl hW hd (fun _ _ => ⟨rfl, W.2.2.1, hc, hs⟩)
  obtain ⟨Lc, q, k, hC, W'⟩ := o_afterW W X' hS hgr hpost hq hg
  exact Gl.tr st (K v _ _ _ Lc W' k hC q)
theorem o_virtualW (W : Wk p l e R (s.setVm V) m args below meth c own Z hb ws (IW s Z EL V) T h locs cells slots) {index : Nat} {C : String} {y z : MethodName} (w1 : (Cond.methodLink own index y).before a0 Z = true) (w2 : (Cond.declares y).before a0 Z = true) (hnf : NotFace (s.setVm V) y) (w3 : (Cond.selects C y z).before a0 Z = true) (w4 : (Cond.instanceMethod z).before a0 Z = true)
    (hy : y.cls ≠ "java/lang/invoke/MethodHandle" ∧ y.cls ≠ "java/lang/invoke/VarHandle") {Wd kc ks : Nat} {Q : Option Value → Heap → List Loc → Prop} {a : Addr} (E : Exa Z h a C) {argsL : List Value} (B : BackSQ l R p e below (s.setVm V) args z 3 Wd (.ref a :: argsL).toArray h kc ks Q Z EL V) (hml : L.size = c.maxLocals)
    (hlen : ∀ sig, parseMethodDescriptor y.desc = some sig → argsL.length = sig.parameters.length) {S0 : List Value} (hS : S0 = argsL.reverse ++ .ref a :: S) (hW : 2 * 0 + (S.map fun v => v.category).sum ≤ Wd) (pc' : Nat) (hd : decode c.code pc = .ok (.invokevirtual index, 3)) (hp : pc + 3 = pc')
    (hc' : cells + kc = cells') (hs' : slots + ks = slots') (hc : cells' ≤ R.cells) (hs : slots' ≤ R.slots) {wy : List Addr} (hq : ∀ v hh L, Q v hh L → Fr Z.heap.size L ∧ Keep h hh wy) (hg : ∀ x ∈ wy, Z.heap.size ≤ x ∧ (x ∈ ws ∨ hb.size ≤ x))
    (K : ∀ v T' h' V' Lc, Wk p l e R (s.setVm V') m args below meth c own Z hb ws (IW s Z EL V') T' h' (locs ++ Lc) cells' slots' → Keep h h' wy → CHr Z EL V h V' h' → Q v h' Lc → Gl p.tables e below P T' m pc' L (v.toList ++ S)) : Gl p.tables e below P T m pc L S0 := by
  subst hp hc' hs' hS
  obtain ⟨cB, kB, q1, q2, q3⟩ := isOf W.2.2.2.1 W.2.2.1 E
  obtain ⟨v, vm₁, B', -, X', hS, hgr, hpost, st⟩ := W.1.virtualBackS W.2.1 W.2.2.2.2.1 (mvT W.2.2.2.1 w1) (mvT W.2.2.2.1 w2) hnf (mvT W.2.2.2.1 w3) (mvT W.2.2.2.1 w4) hy B q1 q3 (g := mkF m pc L (argsL.reverse ++ .ref a :: S)) rfl hml (Steps.refl _) hlen rfl hW hd (fun _ _ => ⟨rfl, W.2.2.1, hc, hs⟩)
  obtain ⟨Lc, q, k, hC, W'⟩ := o_afterW W X' hS hgr hpost hq hg
  exact Gl.tr st (K v _ _ _ Lc W' k hC q)
theorem o_leaveWW {Q : Option Value → Heap → Prop} (W : Wk p l e R (s.setVm V) m args below meth c own Z hb ws (IW s Z EL V) T h locs cells slots) (hEL : EW Z a0 EL) (hlk : meth.locks = false) {v : Option Value} (hv : meth.sig.returnType = none → v = none) (hq : Q v h) (hc : cells ≤ R.cells) (hs : slots ≤ R.slots) (st : ∀ fs, (∀ (f : JFrame) (acts : List Action), f.method = m → f.locked = none → f.entered = [] → (doReturn e (T.setTop f) acts v).1 = T.setFrames fs) → Steps p.tables e below (T.setTop (mkF m pc L S)) (T.setFrames fs)) :
    Gl p.tables e below (PW s Z EL below hb ws R Q) T m pc L S := by
  obtain ⟨X, hx, eT, hZ, ho, o, fr, kp, ⟨k0, i1, i2⟩, i3, i4⟩ := W
  obtain ⟨fs, hr, hrun, hended, a1, a2, a3, a4⟩ := X.leaveW i1 (by rw [eT]; exact i2) (v := v) hv
  have eh : (T.setFrames fs).heap = h := eT
  have hA := CHv.at X hZ hEL i3
  exact ⟨_, _, st fs hr, hrun, hended, v, locs, rfl, ⟨fr, by rw [eh]; exact kp, by rw [eh]; exact hq⟩, by rw [eh]; exact i4.trans hA, a1, a2, a3, a4.mono hc hs⟩
theorem o_retNW (W : Wk p l e R (s.setVm V) m args below meth c own Z hb ws (IW s Z EL V) T h locs cells slots) (hEL : EW Z a0 EL) (hlk : meth.locks = false) {Q : Option Value → Heap → Prop} {z z' : Int32} {t : FieldType} (hret : meth.sig.returnType = some t) (ht : t = .boolean ∨ t = .byte ∨ t = .char ∨ t = .short) (hz : nar t z = z') (hd : decode c.code pc = .ok (.ireturn, 1)) (hc : cells ≤ R.cells) (hs : slots ≤ R.slots) (hq : Q (some (.int z')) h) : Gl p.tables e below (PW s Z EL below hb ws R Q) T m pc L (.int z :: S) := by
  subst hz
  exact o_leaveWW W hEL hlk (fun q => by rw [hret] at q; cases q) hq hc hs fun fs hr => retN W.1 W.2.1 hret ht hd hr
theorem o_retAW (W : Wk p l e R (s.setVm V) m args below meth c own Z hb ws (IW s Z EL V) T h locs cells slots) (hEL : EW Z a0 EL) (hlk : meth.locks = false) {Q : Option Value → Heap → Prop} {t : FieldType} {v : Value} (hret : meth.sig.returnType = some t) (ht : t.isReference = true) (hv : v.isRef = true) (hd : decode c.code pc = .ok (.areturn, 1)) (hc : cells ≤ R.cells) (hs : slots ≤ R.slots) (hq : Q (some v) h) : Gl p.tables e below (PW s Z EL below hb ws R Q) T m pc L (v :: S) :=
  o_leaveWW W hEL hlk (fun q => by rw [hret] at q; cases q) hq hc hs fun fs hr => retOut W.1 W.2.1 hret (by cases v <;> first | (cases hv; done) | (cases t <;> first | (cases ht; done) | rfl)) (Or.inr (Or.inr (Or.inr (Or.inr ⟨rfl, ht, hv⟩)))) hd hr
theorem o_ret0W (W : Wk p l e R (s.setVm V) m args below meth c own Z hb ws (IW s Z EL V) T h locs cells slots) (hEL : EW Z a0 EL) (hlk : meth.locks = false) {Q : Option Value → Heap → Prop} (hret : meth.sig.returnType = none) (hd : decode c.code pc = .ok (.return_, 1)) (hc : cells ≤ R.cells) (hs : slots ≤ R.slots) (hq : Q none h) : Gl p.tables e below (PW s Z EL below hb ws R Q) T m pc L [] :=
  o_leaveWW W hEL hlk (fun _ => rfl) hq hc hs fun fs hr => W.1.returnOut W.2.1 hret hd hr
end OwnWide
section OwnMore
variable {p : Program} {l : Launch} {e : Env} {R : Room} {s : State} {m : MethodId} {args : Array Value} {below : List Frame} {meth : Method} {c : Code} {T : State} {locs : List Loc} {cells slots cells' slots' : Nat} {Z : State} {a0 : Array Value} {h h' hb : Heap} {ws : List Addr} {own : String} {I : Heap → Prop} {P : State → Outcome → Prop} {pc pc' : Nat} {L L' : Array Slot} {S : List Value}
theorem own_selSelf {y : MethodName} {C : String} {args : Array Value} (hy : y.cls ≠ "java/lang/invoke/MethodHandle" ∧ y.cls ≠ "java/lang/invoke/VarHandle") (hs : (Cond.selects C y y).before args s = true) (hi : (Cond.instanceMethod y).before args s = true) (hp : s.PrivateAt y) : (Cond.selects y.cls y y).before args s = true := by
  obtain ⟨c0, r, m0, h1, h2, h3, h4, k, h5, h6⟩ := Cond.selects_spec hs
  obtain ⟨mk, methM, hnamed, hmethM, -, -⟩ := Cond.instanceMethod_spec hi
  cases h3.symm.trans hnamed
  have hpr := hp _ _ hnamed hmethM
  have hc := findClass_of_methodNamed hnamed
  cases (State.methodFound?_of_named hnamed hy).symm.trans h2
  simp [Cond.before, Cond.holds, Cond.value, hc, h2, hnamed, selectMethod_private hmethM hpr, h5, h6]
theorem own_nf2 {C : String} {y y2 : MethodName} {args : Array Value} (hc2 : y2.cls = y.cls) (w2 : (Cond.instanceMethod y2).before args s = true) (ws : (Cond.selects C y2 y2).before args s = true) : NotFace s y := fun r0 h0 => by
  obtain ⟨mk2, methM2, hnamed2, -, -, -⟩ := Cond.instanceMethod_spec w2
  obtain ⟨kr, q1, q2⟩ := notFace_of_selects ws mk2 hnamed2
  have e1 := findClass_of_methodNamed h0
  have e2 := findClass_of_methodNamed hnamed2
  rw [hc2, e1] at e2
  exact ⟨kr, by rw [Option.some.inj e2]; exact q1, q2⟩
theorem o_nf2 (W : Wk p l e R s m args below meth c own Z hb ws I T h locs cells slots) {C : String} {y y2 : MethodName} (hc2 : y2.cls = y.cls) (w2 : (Cond.instanceMethod y2).before a0 Z = true) (w : (Cond.selects C y2 y2).before a0 Z = true) : NotFace s y := own_nf2 (args := #[]) hc2 (mvT W.2.2.2.1 w2) (mvT W.2.2.2.1 w)
theorem own_sameN {C : String} {y y2 : MethodName} (hy : y.cls ≠ "java/lang/invoke/MethodHandle" ∧ y.cls ≠ "java/lang/invoke/VarHandle") (w : (Cond.instanceMethod y).before a0 Z = true) (hc2 : y2.cls = y.cls) (w2 : (Cond.instanceMethod y2).before a0 Z = true) (ws : (Cond.selects C y2 y2).before a0 Z = true) : (Cond.sameMethod y.cls y.cls y.name y.desc).before a0 Z = true := by
  obtain ⟨mk, methM, hnamed, hmethM, -, -⟩ := Cond.instanceMethod_spec w
  have hc := findClass_of_methodNamed hnamed
  have h2 := State.methodFound?_of_named hnamed hy
  obtain ⟨kr, q1, q2⟩ := own_nf2 hc2 w2 ws mk hnamed
  simp [Cond.before, Cond.holds, Cond.value, hc, h2, hnamed, q1, q2]
theorem o_private (W : Wk p l e R s m args below meth c own Z hb ws I T h locs cells slots) {index : Nat} {y : MethodName} {bytes : ByteArray} {maxL : Nat} {ret : Option FieldType} {C K0 : String} (w1 : (Cond.methodLink own index y).before a0 Z = true) (w2 : (Cond.instanceMethod y).before a0 Z = true) (w3 : (Cond.selects C y y).before a0 Z = true) (w4 : (Cond.privateMethod y).before a0 Z = true) (w5 : (Cond.code y bytes maxL ret).before a0 Z = true)
    (hy : y.cls ≠ "java/lang/invoke/MethodHandle" ∧ y.cls ≠ "java/lang/invoke/VarHandle") {Wd kc ks : Nat} {Q : Option Value → Heap → List Loc → Prop} {a : Addr} (E : Exa Z h a K0) {argsL : List Value} (B : BackQ l R p e below s args y 3 Wd (.ref a :: argsL).toArray h kc ks Q) (hml : L.size = c.maxLocals)
    (hlen : ∀ sig, parseMethodDescriptor y.desc = some sig → argsL.length = sig.parameters.length) {S0 : List Value} (hS : S0 = argsL.reverse ++ .ref a :: S) (hW : 2 * 0 + (S.map fun v => v.category).sum ≤ Wd) (pc' : Nat) (hd : decode c.code pc = .ok (.invokevirtual index, 3)) (hp : pc + 3 = pc')
    (hc' : cells + kc = cells') (hs' : slots + ks = slots') (hc : cells' ≤ R.cells) (hs : slots' ≤ R.slots) {wy : List Addr} (hq : ∀ v hh L, Q v hh L → Fr Z.heap.size L ∧ Keep h hh wy) (hg : ∀ x ∈ wy, Z.heap.size ≤ x ∧ (x ∈ ws ∨ hb.size ≤ x)) (hI : ∀ h', Keep h h' wy → I h')
    (K : ∀ v T' h' Lc, Wk p l e R s m args below meth c own Z hb ws I T' h' (locs ++ Lc) cells' slots' → Keep h h' wy → Q v h' Lc → Gl p.tables e below P T' m pc' L (v.toList ++ S)) : Gl p.tables e below P T m pc L S0 := by
  subst hp hc' hs' hS
  obtain ⟨cl, q1, q2⟩ := E.cell
  have hpv : s.PrivateAt y := Cond.privateMethod_at (mvP W.2.2.2.1 w4 (args := #[]))
  obtain ⟨v, vm₁, B', -, X', hpost, st⟩ := W.1.privateBack W.2.1 W.2.2.2.2.1 (mvT W.2.2.2.1 w1) (mvT W.2.2.2.1 w2) (own_selSelf hy (mvT W.2.2.2.1 w3) (mvT W.2.2.2.1 w2) hpv) hpv (mvT W.2.2.2.1 w5) hy B (g := mkF m pc L (argsL.reverse ++ .ref a :: S)) rfl hml (Steps.refl _) (by rw [W.2.2.1]; exact q1) q2 hlen rfl hW hd (fun _ _ => ⟨rfl, W.2.2.1, hc, hs⟩)
  obtain ⟨Lc, q, k, W'⟩ := o_after W X' hpost hq hg hI
  exact Gl.tr st (K v _ _ Lc W' k q)
theorem o_copy (W : Wk p l e R s m args below meth c own Z hb ws I T h locs cells slots) {index : Nat} (w1 : (Cond.methodLink own index Jvm.Stand.acN).before a0 Z = true) (w2 : (Cond.native Jvm.Stand.acN).before a0 Z = true) (w3 : (Cond.static Jvm.Stand.acN).before a0 Z = true) (w4 : (Cond.initialized "java/lang/System").before a0 Z = true)
    {a b : Addr} {k k' : ClassId} {ty ty' : FieldType} {z z' sp dp nn : Int32} {vs vd us vd' : List Value} {dv dd : Value} (A : Arv Z h a k ty z vs dv) (B : Arv Z h b k' ty' z' vd dd) (hty : (ty = ty' ∧ refKind ty = false) ∨ (refKind ty = true ∧ refKind ty' = true ∧ StoL Z h b us))
    (h1 : ¬ sp < 0) (h2 : ¬ dp < 0) (h3 : ¬ nn < 0) (h4 : sp.toNatClampNeg + nn.toNatClampNeg ≤ z.toNatClampNeg) (h5 : dp.toNatClampNeg + nn.toNatClampNeg ≤ z'.toNatClampNeg)
    (hus : us = (List.range nn.toNatClampNeg).map fun i => vs.getD (sp.toNatClampNeg + i) dv) (hl : dp.toNatClampNeg + nn.toNatClampNeg ≤ vd.length) (hvd : vd.take dp.toNatClampNeg ++ us ++ vd.drop (dp.toNatClampNeg + nn.toNatClampNeg) = vd')
    (g1 : Z.heap.size ≤ b) (g2 : b ∈ ws ∨ hb.size ≤ b) (hI : ∀ h', Keep h h' [b] → I h') (hml : L.size = c.maxLocals) (pc' : Nat) (hd : decode c.code pc = .ok (.invokestatic index, 3)) (hp : pc + 3 = pc') (hf : 1 ≤ R.frames) (Wd : Nat) (hW : 2 * 0 + (S.map fun v => v.category).sum ≤ Wd) (hlo : Wd + (nativeFrameWords "java/lang/System" "arraycopy" 5 + 11) ≤ R.locals)
    (K : ∀ T' h' locs', Wk p l e R s m args below meth c own Z hb ws I T' h' locs' cells slots → Keep h h' [b] → Arv Z h' b k' ty' z' vd' dd → Gl p.tables e below P T' m pc' L S) : Gl p.tables e below P T m pc L (.int nn :: .int dp :: .ref b :: .int sp :: .ref a :: S) := by
  subst hp hvd
  obtain ⟨X, hx, eT, hZ, ho, o, fr, kp, i⟩ := W
  obtain ⟨T', h', L1, X', e', F', K', V', st⟩ := cpA X hx hZ ho w1 w2 w3 w4 eT A B hty h1 h2 h3 h4 h5 hus hl fr g1 (g := mkF m pc L (.int nn :: .int dp :: .ref b :: .int sp :: .ref a :: S)) rfl hml rfl hd hf hW hlo
  exact Gl.st st (K T' h' _ ⟨X', hx, e', hZ, ho, o.keep K' (allS g1 all0), F', kp.trans K' (allS g2 all0), hI _ K'⟩ K' V')
theorem o_super (W : Wk p l e R s m args below meth c own Z hb ws I T h locs cells slots) {index : Nat} {y : MethodName} {bytes : ByteArray} {maxL : Nat} {ret : Option FieldType} {K0 : String} (hn : y.name ≠ "<init>") (w1 : (Cond.methodLink own index y).before a0 Z = true) (w2 : (Cond.instanceMethod y).before a0 Z = true) (w3 : (Cond.sameMethod y.cls y.cls y.name y.desc).before a0 Z = true) (w5 : (Cond.superclass own y.cls).before a0 Z = true) (w4 : (Cond.code y bytes maxL ret).before a0 Z = true)
    {Wd kc ks : Nat} {Q : Option Value → Heap → List Loc → Prop} {a : Addr} (F : Ins Z h a K0 true) {argsL : List Value} (B : BackQ l R p e below s args y 3 Wd (.ref a :: argsL).toArray h kc ks Q) (hml : L.size = c.maxLocals)
    (hlen : ∀ sig, parseMethodDescriptor y.desc = some sig → argsL.length = sig.parameters.length) {S0 : List Value} (hS : S0 = argsL.reverse ++ .ref a :: S) (hW : 2 * 0 + (S.map fun v => v.category).sum ≤ Wd) (pc' : Nat) (hd : decode c.code pc = .ok (.invokespecial index, 3)) (hp : pc + 3 = pc')
    (hc' : cells + kc = cells') (hs' : slots + ks = slots') (hc : cells' ≤ R.cells) (hs : slots' ≤ R.slots) {wy : List Addr} (hq : ∀ v hh L, Q v hh L → Fr Z.heap.size L ∧ Keep h hh wy) (hg : ∀ x ∈ wy, Z.heap.size ≤ x ∧ (x ∈ ws ∨ hb.size ≤ x)) (hI : ∀ h', Keep h h' wy → I h')
    (K : ∀ v T' h' Lc, Wk p l e R s m args below meth c own Z hb ws I T' h' (locs ++ Lc) cells' slots' → Keep h h' wy → Q v h' Lc → Gl p.tables e below P T' m pc' L (v.toList ++ S)) : Gl p.tables e below P T m pc L S0 := by
  subst hp hc' hs' hS
  obtain ⟨v, vm₁, B', -, X', hpost, st⟩ := superBack W.1 W.2.1 W.2.2.2.1 W.2.2.2.2.1 w1 w3 w2 w5 hn B W.2.2.1 F (g := mkF m pc L (argsL.reverse ++ .ref a :: S)) rfl hml w4 hlen rfl hW hd (fun _ _ => ⟨rfl, W.2.2.1, hc, hs⟩)
  obtain ⟨Lc, q, k, W'⟩ := o_after W X' hpost hq hg hI
  exact Gl.tr st (K v _ _ Lc W' k q)
def MirW (Z : State) (C : String) (a : Addr) : Prop := ∃ (c : ClassId) (k : Class), Z.vm.findClass C = some c ∧ Z.vm.classes[c]? = some k ∧ k.mirror = some a
end OwnMore

abbrev HW (Z : State) (a0 : Array Value) : Prop := ∀ d ∈ tables_1, d.before a0 Z = true
theorem wa {Z : State} {a0 : Array Value} (hw : HW Z a0) (i : Nat) {c : Cond} (h : tables_1[i]? = some c) : c.before a0 Z = true := hw _ (List.mem_of_getElem? h)
theorem qf {Z : State} {h : Heap} {wy : List Addr} {Q : Option Value → Heap → Prop} : ∀ (v : Option Value) (hh : Heap) (L : List Loc), (Fr Z.heap.size L ∧ Keep h hh wy ∧ Q v hh) → Fr Z.heap.size L ∧ Keep h hh wy := fun _ _ _ q => ⟨q.1, q.2.1⟩
theorem tri {A : Heap → Prop} : ∀ h : Heap, A h → True := fun _ _ => trivial
theorem m0 {x : Addr} {ws : List Addr} {P : Prop} : x ∈ x :: ws ∨ P := Or.inl List.mem_cons_self
abbrev b8 (x : Int32) : Int32 := StrChars.lo8 x
abbrev vi (x : Int32) : Slot := .val (.int x)
abbrev vr (a : Addr) : Slot := .val (.ref a)
abbrev un : Slot := .unset
section OwnC
variable {p : Program} {l : Launch} {e : Env} {R : Room} {s : State} {m : MethodId} {args : Array Value} {below : List Frame} {meth : Method} {c : Code} {T : State} {locs : List Loc} {cells slots : Nat} {Z : State} {a0 : Array Value} {h hb : Heap} {ws : List Addr} {own : String} {I : Heap → Prop} {P : State → Outcome → Prop} {pc : Nat} {L : Array Slot}
theorem o_staticC (W : Wk p l e R s m args below meth c own Z hb ws I T h locs cells slots) {index : Nat} {y : MethodName} {bytes : ByteArray} {maxL : Nat} {ret : Option FieldType} (w1 : (Cond.methodLink own index y).before a0 Z = true) (w2 : (Cond.static y).before a0 Z = true) (w3 : (Cond.initialized y.cls).before a0 Z = true) (w4 : (Cond.code y bytes maxL ret).before a0 Z = true)
    (hy : y.cls ≠ "java/lang/invoke/MethodHandle" ∧ y.cls ≠ "java/lang/invoke/VarHandle") {rm : Room} {wy : List Addr} {Q : Option Value → Heap → Prop} {argsL : List Value} (Ct : CtrN l Z y bytes maxL ret [] rm argsL.toArray h wy Q) (Wd : Nat) (cells' slots' : Nat) (hz : rm.frames + 1 ≤ R.frames ∧ Wd + (maxL + 11) + rm.locals ≤ R.locals ∧ cells' ≤ R.cells ∧ slots' ≤ R.slots) (hml : L.size = c.maxLocals)
    (hlen : ∀ sig, parseMethodDescriptor y.desc = some sig → argsL.length = sig.parameters.length) {S0 : List Value} (S : List Value) (hS : S0 = argsL.reverse ++ S) (hW : 2 * 0 + (S.map fun v => v.category).sum = Wd) (pc' : Nat) (hd : decode c.code pc = .ok (.invokestatic index, 3)) (hp : pc + 3 = pc')
    (hc' : cells + rm.cells = cells') (hs' : slots + rm.slots = slots') (hg : ∀ x ∈ wy, Z.heap.size ≤ x ∧ (x ∈ ws ∨ hb.size ≤ x)) (hI : ∀ h', Keep h h' wy → I h')
    (K : ∀ v T' h' Lc, Wk p l e R s m args below meth c own Z hb ws I T' h' (locs ++ Lc) cells' slots' → Keep h h' wy → (Fr Z.heap.size Lc ∧ Keep h h' wy ∧ Q v h') → Gl p.tables e below P T' m pc' L (v.toList ++ S)) : Gl p.tables e below P T m pc L S0 := o_static W w1 w2 w3 w4 hy (CtrN.back (Wd := Wd) W Ct w4 w3 hz.1 hz.2.1) hml hlen hS (Nat.le_of_eq hW) pc' hd hp hc' hs' hz.2.2.1 hz.2.2.2 qf hg hI K
theorem o_specialC (W : Wk p l e R s m args below meth c own Z hb ws I T h locs cells slots) {index : Nat} {y : MethodName} {bytes : ByteArray} {maxL : Nat} (hy1 : y.name = "<init>") (w1 : (Cond.methodLink own index y).before a0 Z = true) (w2 : (Cond.instanceMethod y).before a0 Z = true) (w4 : (Cond.code y bytes maxL none).before a0 Z = true)
    (hy : y.cls ≠ "java/lang/invoke/MethodHandle" ∧ y.cls ≠ "java/lang/invoke/VarHandle") {rm : Room} {wy : List Addr} {Q : Option Value → Heap → Prop} {a : Addr} {argsL : List Value} (wz : (Cond.initialized y.cls).before a0 Z = true) (Ct : CtrN l Z y bytes maxL none [] rm (.ref a :: argsL).toArray h wy Q) (Wd : Nat) (cells' slots' : Nat) (hz : rm.frames + 1 ≤ R.frames ∧ Wd + (maxL + 11) + rm.locals ≤ R.locals ∧ cells' ≤ R.cells ∧ slots' ≤ R.slots) (hml : L.size = c.maxLocals)
    (hlen : ∀ sig, parseMethodDescriptor y.desc = some sig → argsL.length = sig.parameters.length) {S0 : List Value} (S : List Value) (hS : S0 = argsL.reverse ++ .ref a :: S) (hW : 2 * 0 + (S.map fun v => v.category).sum = Wd) (pc' : Nat) (hd : decode c.code pc = .ok (.invokespecial index, 3)) (hp : pc + 3 = pc')
    (hc' : cells + rm.cells = cells') (hs' : slots + rm.slots = slots') (hg : ∀ x ∈ wy, Z.heap.size ≤ x ∧ (x ∈ ws ∨ hb.size ≤ x)) (hI : ∀ h', Keep h h' wy → I h')
    (K : ∀ v T' h' Lc, Wk p l e R s m args below meth c own Z hb ws I T' h' (locs ++ Lc) cells' slots' → Keep h h' wy → (Fr Z.heap.size Lc ∧ Keep h h' wy ∧ Q v h') → Gl p.tables e below P T' m pc' L (v.toList ++ S)) : Gl p.tables e below P T m pc L S0 := o_special W hy1 w1 w2 w4 hy (CtrN.back (Wd := Wd) W Ct w4 wz hz.1 hz.2.1) hml hlen hS (Nat.le_of_eq hW) pc' hd hp hc' hs' hz.2.2.1 hz.2.2.2 qf hg hI K
theorem o_virtualC (W : Wk p l e R s m args below meth c own Z hb ws I T h locs cells slots) {index : Nat} {C : String} {y z : MethodName} (w1 : (Cond.methodLink own index y).before a0 Z = true) (w2 : (Cond.declares y).before a0 Z = true) (hnf : NotFace s y) (w3 : (Cond.selects C y z).before a0 Z = true) (w4 : (Cond.instanceMethod z).before a0 Z = true)
    (hy : y.cls ≠ "java/lang/invoke/MethodHandle" ∧ y.cls ≠ "java/lang/invoke/VarHandle") {rm : Room} {wy : List Addr} {Q : Option Value → Heap → Prop} {a : Addr} (E : Exa Z h a C) {argsL : List Value} {bytes : ByteArray} {maxL : Nat} {ret : Option FieldType} (wc : (Cond.code z bytes maxL ret).before a0 Z = true) (wz : (Cond.initialized z.cls).before a0 Z = true) (Ct : CtrN l Z z bytes maxL ret [] rm (.ref a :: argsL).toArray h wy Q) (Wd : Nat) (cells' slots' : Nat) (hz : rm.frames + 1 ≤ R.frames ∧ Wd + (maxL + 11) + rm.locals ≤ R.locals ∧ cells' ≤ R.cells ∧ slots' ≤ R.slots) (hml : L.size = c.maxLocals)
    (hlen : ∀ sig, parseMethodDescriptor y.desc = some sig → argsL.length = sig.parameters.length) {S0 : List Value} (S : List Value) (hS : S0 = argsL.reverse ++ .ref a :: S) (hW : 2 * 0 + (S.map fun v => v.category).sum = Wd) (pc' : Nat) (hd : decode c.code pc = .ok (.invokevirtual index, 3)) (hp : pc + 3 = pc')
    (hc' : cells + rm.cells = cells') (hs' : slots + rm.slots = slots') (hg : ∀ x ∈ wy, Z.heap.size ≤ x ∧ (x ∈ ws ∨ hb.size ≤ x)) (hI : ∀ h', Keep h h' wy → I h')
    (K : ∀ v T' h' Lc, Wk p l e R s m args below meth c own Z hb ws I T' h' (locs ++ Lc) cells' slots' → Keep h h' wy → (Fr Z.heap.size Lc ∧ Keep h h' wy ∧ Q v h') → Gl p.tables e below P T' m pc' L (v.toList ++ S)) : Gl p.tables e below P T m pc L S0 := o_virtual W w1 w2 hnf w3 w4 hy E (CtrN.back (Wd := Wd) W Ct wc wz hz.1 hz.2.1) hml hlen hS (Nat.le_of_eq hW) pc' hd hp hc' hs' hz.2.2.1 hz.2.2.2 qf hg hI K
theorem o_privateC (W : Wk p l e R s m args below meth c own Z hb ws I T h locs cells slots) {index : Nat} {y : MethodName} {bytes : ByteArray} {maxL : Nat} {ret : Option FieldType} {C K0 : String} (w1 : (Cond.methodLink own index y).before a0 Z = true) (w2 : (Cond.instanceMethod y).before a0 Z = true) (w3 : (Cond.selects C y y).before a0 Z = true) (w4 : (Cond.privateMethod y).before a0 Z = true) (w5 : (Cond.code y bytes maxL ret).before a0 Z = true)
    (hy : y.cls ≠ "java/lang/invoke/MethodHandle" ∧ y.cls ≠ "java/lang/invoke/VarHandle") {rm : Room} {wy : List Addr} {Q : Option Value → Heap → Prop} {a : Addr} (E : Exa Z h a K0) {argsL : List Value} (wz : (Cond.initialized y.cls).before a0 Z = true) (Ct : CtrN l Z y bytes maxL ret [] rm (.ref a :: argsL).toArray h wy Q) (Wd : Nat) (cells' slots' : Nat) (hz : rm.frames + 1 ≤ R.frames ∧ Wd + (maxL + 11) + rm.locals ≤ R.locals ∧ cells' ≤ R.cells ∧ slots' ≤ R.slots) (hml : L.size = c.maxLocals)
    (hlen : ∀ sig, parseMethodDescriptor y.desc = some sig → argsL.length = sig.parameters.length) {S0 : List Value} (S : List Value) (hS : S0 = argsL.reverse ++ .ref a :: S) (hW : 2 * 0 + (S.map fun v => v.category).sum = Wd) (pc' : Nat) (hd : decode c.code pc = .ok (.invokevirtual index, 3)) (hp : pc + 3 = pc')
    (hc' : cells + rm.cells = cells') (hs' : slots + rm.slots = slots') (hg : ∀ x ∈ wy, Z.heap.size ≤ x ∧ (x ∈ ws ∨ hb.size ≤ x)) (hI : ∀ h', Keep h h' wy → I h')
    (K : ∀ v T' h' Lc, Wk p l e R s m args below meth c own Z hb ws I T' h' (locs ++ Lc) cells' slots' → Keep h h' wy → (Fr Z.heap.size Lc ∧ Keep h h' wy ∧ Q v h') → Gl p.tables e below P T' m pc' L (v.toList ++ S)) : Gl p.tables e below P T m pc L S0 := o_private W w1 w2 w3 w4 w5 hy E (CtrN.back (Wd := Wd) W Ct w5 wz hz.1 hz.2.1) hml hlen hS (Nat.le_of_eq hW) pc' hd hp hc' hs' hz.2.2.1 hz.2.2.2 qf hg hI K
theorem o_superC (W : Wk p l e R s m args below meth c own Z hb ws I T h locs cells slots) {index : Nat} {y : MethodName} {bytes : ByteArray} {maxL : Nat} {ret : Option FieldType} {K0 : String} (hn : y.name ≠ "<init>") (w1 : (Cond.methodLink own index y).before a0 Z = true) (w2 : (Cond.instanceMethod y).before a0 Z = true) (w3 : (Cond.sameMethod y.cls y.cls y.name y.desc).before a0 Z = true) (w5 : (Cond.superclass own y.cls).before a0 Z = true) (w4 : (Cond.code y bytes maxL ret).before a0 Z = true)
    {rm : Room} {wy : List Addr} {Q : Option Value → Heap → Prop} {a : Addr} (F : Ins Z h a K0 true) {argsL : List Value} (wz : (Cond.initialized y.cls).before a0 Z = true) (Ct : CtrN l Z y bytes maxL ret [] rm (.ref a :: argsL).toArray h wy Q) (Wd : Nat) (cells' slots' : Nat) (hz : rm.frames + 1 ≤ R.frames ∧ Wd + (maxL + 11) + rm.locals ≤ R.locals ∧ cells' ≤ R.cells ∧ slots' ≤ R.slots) (hml : L.size = c.maxLocals)
    (hlen : ∀ sig, parseMethodDescriptor y.desc = some sig → argsL.length = sig.parameters.length) {S0 : List Value} (S : List Value) (hS : S0 = argsL.reverse ++ .ref a :: S) (hW : 2 * 0 + (S.map fun v => v.category).sum = Wd) (pc' : Nat) (hd : decode c.code pc = .ok (.invokespecial index, 3)) (hp : pc + 3 = pc')
    (hc' : cells + rm.cells = cells') (hs' : slots + rm.slots = slots') (hg : ∀ x ∈ wy, Z.heap.size ≤ x ∧ (x ∈ ws ∨ hb.size ≤ x)) (hI : ∀ h', Keep h h' wy → I h')
    (K : ∀ v T' h' Lc, Wk p l e R s m args below meth c own Z hb ws I T' h' (locs ++ Lc) cells' slots' → Keep h h' wy → (Fr Z.heap.size Lc ∧ Keep h h' wy ∧ Q v h') → Gl p.tables e below P T' m pc' L (v.toList ++ S)) : Gl p.tables e below P T m pc L S0 := o_super W hn w1 w2 w3 w5 w4 F (CtrN.back (Wd := Wd) W Ct w4 wz hz.1 hz.2.1) hml hlen hS (Nat.le_of_eq hW) pc' hd hp hc' hs' hz.2.2.1 hz.2.2.2 qf hg hI K
end OwnC
abbrev iZ : Value := .int 0
abbrev s0 : String := "java/lang/String"
abbrev s1 : String := "java/lang/AbstractStringBuilder"
abbrev s2 : String := "java/lang/StringBuilder"
abbrev s3 : String := "COMPACT_STRINGS"
abbrev s4 : String := "com/example/colophon/colophon/api/Html"
abbrev s5 : String := "Ljava/lang/StringBuilder;"
abbrev mn0 : MethodName := ⟨"java/lang/String", "<init>", "([CIILjava/lang/Void;)V"⟩
abbrev mn1 : MethodName := ⟨"java/lang/String", "<init>", "([C)V"⟩
abbrev mn2 : MethodName := ⟨"java/lang/AbstractStringBuilder", "<init>", "(I)V"⟩
abbrev mn3 : MethodName := ⟨"java/lang/StringBuilder", "<init>", "()V"⟩
abbrev mn4 : MethodName := ⟨"com/example/colophon/colophon/api/Html", "<init>", "()V"⟩
abbrev mn5 : MethodName := ⟨"java/lang/String", "coder", "()B"⟩
abbrev mn6 : MethodName := ⟨"java/lang/String", "length", "()I"⟩
abbrev mn7 : MethodName := ⟨"java/lang/AbstractStringBuilder", "ensureCapacityInternal", "(I)V"⟩
abbrev mn8 : MethodName := ⟨"java/lang/AbstractStringBuilder", "inflateIfNeededFor", "(Ljava/lang/String;)V"⟩
abbrev mn9 : MethodName := ⟨"java/lang/String", "getBytes", "([BIB)V"⟩
abbrev mn10 : MethodName := ⟨"java/lang/AbstractStringBuilder", "putStringAt", "(ILjava/lang/String;)V"⟩
abbrev mn11 : MethodName := ⟨"java/lang/AbstractStringBuilder", "append", "(Ljava/lang/String;)Ljava/lang/AbstractStringBuilder;"⟩
abbrev mn12 : MethodName := ⟨"java/lang/StringBuilder", "append", "(Ljava/lang/String;)Ljava/lang/StringBuilder;"⟩
abbrev mn13 : MethodName := ⟨"java/lang/AbstractStringBuilder", "isLatin1", "()Z"⟩
abbrev mn14 : MethodName := ⟨"java/lang/StringLatin1", "canEncode", "(C)Z"⟩
abbrev mn15 : MethodName := ⟨"java/lang/AbstractStringBuilder", "append", "(C)Ljava/lang/AbstractStringBuilder;"⟩
abbrev mn16 : MethodName := ⟨"java/lang/StringBuilder", "append", "(C)Ljava/lang/StringBuilder;"⟩
abbrev mn17 : MethodName := ⟨"com/example/colophon/colophon/api/Html", "close", "(Ljava/lang/String;)Lcom/example/colophon/colophon/api/Html;"⟩
abbrev mn18 : MethodName := ⟨"java/lang/AbstractStringBuilder", "getValue", "()[B"⟩
abbrev mn19 : MethodName := ⟨"java/lang/AbstractStringBuilder", "length", "()I"⟩
abbrev mn20 : MethodName := ⟨"java/lang/StringBuilder", "length", "()I"⟩
abbrev mn21 : MethodName := ⟨"java/util/Arrays", "checkLength", "(II)V"⟩
abbrev mn22 : MethodName := ⟨"java/lang/Math", "min", "(II)I"⟩
abbrev mn23 : MethodName := ⟨"java/util/Arrays", "copyOfRangeByte", "([BII)[B"⟩
abbrev mn24 : MethodName := ⟨"java/util/Arrays", "copyOfRange", "([BII)[B"⟩
abbrev mn25 : MethodName := ⟨"java/lang/String", "<init>", "(Ljava/lang/AbstractStringBuilder;Ljava/lang/Void;)V"⟩
abbrev mn26 : MethodName := ⟨"java/lang/String", "<init>", "(Ljava/lang/StringBuilder;)V"⟩
abbrev mn27 : MethodName := ⟨"java/lang/StringBuilder", "toString", "()Ljava/lang/String;"⟩
abbrev mn28 : MethodName := ⟨"com/example/colophon/colophon/api/Html", "toString", "()Ljava/lang/String;"⟩
abbrev mn29 : MethodName := ⟨"java/lang/StringLatin1", "equals", "([B[B)Z"⟩
abbrev mn30 : MethodName := ⟨"java/lang/String", "equals", "(Ljava/lang/Object;)Z"⟩
abbrev mn31 : MethodName := ⟨"java/lang/StringLatin1", "toBytes", "(C)[B"⟩
abbrev mn32 : MethodName := ⟨"java/lang/String", "<init>", "([BB)V"⟩
abbrev mn33 : MethodName := ⟨"java/lang/String", "valueOf", "(C)Ljava/lang/String;"⟩
abbrev mn34 : MethodName := ⟨"com/example/colophon/colophon/api/Html", "open", "(Ljava/lang/String;[Ljava/lang/String;)Lcom/example/colophon/colophon/api/Html;"⟩
abbrev dc (b : ByteArray) (pc : Nat) (i : Instr) (n : Nat) : Prop := decode b pc = .ok (i, n)
abbrev c0_ : ByteArray := jdk_42_method_3_code
abbrev c1_ : ByteArray := jdk_42_method_149_code
abbrev c2_ : ByteArray := prog_5_method_1_code
abbrev c3_ : ByteArray := jdk_67_method_1_code
abbrev c4_ : ByteArray := jdk_68_method_2_code
abbrev c5_ : ByteArray := prog_5_method_3_code
abbrev c6_ : ByteArray := jdk_67_method_7_code
abbrev c7_ : ByteArray := jdk_68_method_22_code
abbrev c8_ : ByteArray := jdk_42_method_54_code
abbrev c9_ : ByteArray := jdk_42_method_152_code
abbrev c10_ : ByteArray := jdk_68_method_9_code
abbrev c11_ : ByteArray := jdk_68_method_73_code
abbrev c12_ : ByteArray := jdk_68_method_71_code
abbrev c13_ : ByteArray := jdk_42_method_147_code
abbrev c14_ : ByteArray := jdk_67_method_14_code
abbrev c15_ : ByteArray := jdk_68_method_31_code
abbrev c16_ : ByteArray := jdk_68_method_68_code
abbrev c17_ : ByteArray := jdk_43_method_3_code
abbrev c18_ : ByteArray := prog_5_method_8_code
abbrev c19_ : ByteArray := jdk_67_method_42_code
abbrev c20_ : ByteArray := jdk_42_method_53_code
abbrev c21_ : ByteArray := jdk_42_method_150_code
abbrev c22_ : ByteArray := jdk_68_method_64_code
abbrev c23_ : ByteArray := jdk_67_method_93_code
abbrev c24_ : ByteArray := jdk_68_method_6_code
abbrev c25_ : ByteArray := jdk_65_method_132_code
abbrev c26_ : ByteArray := jdk_65_method_133_code
abbrev c27_ : ByteArray := jdk_65_method_131_code
abbrev c28_ : ByteArray := jdk_29_method_69_code
abbrev c29_ : ByteArray := jdk_42_method_66_code
abbrev c30_ : ByteArray := jdk_43_method_13_code
abbrev c31_ : ByteArray := jdk_42_method_139_code
abbrev c32_ : ByteArray := jdk_43_method_46_code
abbrev c33_ : ByteArray := jdk_42_method_151_code
abbrev c34_ : ByteArray := prog_5_method_2_code
set_option maxRecDepth 65536
set_option maxHeartbeats 40000000

def own_b (x : Int32) : Prop := ¬ x < 0 ∧ ¬ (255 : Int32) < x
def own_01 (x : Int32) : Prop := x = 0 ∨ x = 1
def own_ok (cs : List Int32) : Prop := (∀ c ∈ cs, own_b c) ∧ cs.length ≤ 4000
def own_eq (cs ds : List Int32) : Int32 := if cs = ds then 1 else 0
theorem own_eq01 (cs ds : List Int32) : own_01 (own_eq cs ds) := by unfold own_eq own_01; split <;> simp
theorem own_eq_symm (cs ds : List Int32) : own_eq cs ds = own_eq ds cs := by
  unfold own_eq
  by_cases h : cs = ds
  · rw [if_pos h, if_pos h.symm]
  · rw [if_neg h, if_neg (Ne.symm h)]
theorem own_lcs (x : Int64) : lcmpW x x = 0 := by simp [lcmpW]
theorem own_eqne (cs : List Int32) : ¬ own_eq cs cs = 0 := by unfold own_eq; rw [if_pos rfl]; decide
theorem own_ite0 {P : Prop} [Decidable P] (h : ¬ P) : (0 : Int32) = if P then 1 else 0 := (if_neg h).symm
theorem own_ite1 {P : Prop} [Decidable P] (h : P) : (1 : Int32) = if P then 1 else 0 := (if_pos h).symm
theorem own_b255 (x : Int32) : own_b (x &&& 255) := by
  have h := c_andS x 255
  have h1 : (x &&& 255).toBitVec.toNat ≤ 255 := by
    rw [Int32.toBitVec_and, BitVec.toNat_and]; exact Nat.and_le_right
  have h0 := h.2.2 (by decide)
  have e : (x &&& 255).toInt = (x &&& 255).toBitVec.toNat := by
    show (x &&& 255).toBitVec.toInt = _
    rw [BitVec.toInt_eq_toNat_cond, if_pos (by omega)]
  refine ⟨?_, ?_⟩
  · rw [Int32.lt_iff_toInt_lt]; show ¬ _ < (0 : Int); omega
  · rw [Int32.lt_iff_toInt_lt]; show ¬ (255 : Int) < _; omega
theorem own_bnat {x : Int32} (h : own_b x) : x.toBitVec.toNat ≤ 255 ∧ x.toInt = x.toBitVec.toNat := by
  obtain ⟨h0, h1⟩ := h
  rw [Int32.lt_iff_toInt_lt] at h0 h1
  have e0 : (0 : Int32).toInt = 0 := rfl
  have e1 : (255 : Int32).toInt = 255 := rfl
  have := x.toBitVec.isLt
  have e : x.toInt = x.toBitVec.toInt := rfl
  have e2 : x.toBitVec.toInt = if 2 * x.toBitVec.toNat < 2 ^ 32 then (x.toBitVec.toNat : Int) else (x.toBitVec.toNat : Int) - ((2 ^ 32 : Nat) : Int) := BitVec.toInt_eq_toNat_cond x.toBitVec
  split at e2 <;> omega
theorem own_i2c {x : Int32} (h : own_b x) : x.toUInt32.toUInt16.toUInt32.toInt32 = x := by
  obtain ⟨h1, -⟩ := own_bnat h
  apply Int32.toBitVec_inj.mp
  apply BitVec.eq_of_toNat_eq
  show (BitVec.setWidth 32 (BitVec.setWidth 16 x.toBitVec)).toNat = _
  simp only [BitVec.toNat_setWidth]
  omega
theorem own_fitC {x : Int32} (h : own_b x) : fits .char (.int x) = true := by
  have q := fits_nar_char x
  have e : nar .char x = x := own_i2c h
  rw [e] at q; exact q
theorem own_nar01 {x : Int32} (h : own_01 x) : x &&& 1 = x := by rcases h with rfl | rfl <;> decide
theorem own_fit01 {x : Int32} (h : own_01 x) : fits .boolean (.int x) = true := by rcases h with rfl | rfl <;> decide
theorem own_up {cs : List Int32} (h : own_ok cs) : ∀ c ∈ cs, ¬ c < 0 ∧ ¬ (65535 : Int32) < c := fun c hc => by
  obtain ⟨h0, h1⟩ := h.1 c hc
  refine ⟨h0, fun q => h1 ?_⟩
  rw [Int32.lt_iff_toInt_lt] at q ⊢
  have e0 : (65535 : Int32).toInt = 65535 := rfl
  have e1 : (255 : Int32).toInt = 255 := rfl
  omega
theorem own_eqv {v : Option Value} {cs ds : List Int32} (h : (v = some (.int 1) ∧ cs = ds) ∨ (v = some (.int 0) ∧ ¬ cs = ds)) : v = some (.int (own_eq cs ds)) := by
  unfold own_eq
  rcases h with ⟨rfl, h⟩ | ⟨rfl, h⟩
  · rw [if_pos h]
  · rw [if_neg h]
theorem own_b8 (x : Int32) : x.toInt8.toInt32.toInt8.toInt32 = x.toInt8.toInt32 := by simp
theorem own_fit8 (x : Int32) : fits .byte (.int x.toInt8.toInt32) = true := fits_nar_byte x
theorem own_shr8 {x : Int32} (h : own_b x) : (x.toUInt32 >>> ((8 : Int32) &&& 31).toUInt32).toInt32 = 0 := by
  obtain ⟨h1, -⟩ := own_bnat h
  apply Int32.toBitVec_inj.mp
  apply BitVec.eq_of_toNat_eq
  have e : ((8 : Int32) &&& 31).toUInt32 = 8 := by decide
  rw [e]
  show (x.toUInt32 >>> 8).toBitVec.toNat = 0
  rw [UInt32.toBitVec_shiftRight]
  show (x.toBitVec >>> (8 : UInt32).toBitVec.umod 32).toNat = 0
  rw [BitVec.ushiftRight_eq', BitVec.toNat_ushiftRight, show ((8 : UInt32).toBitVec.umod 32).toNat = 8 by decide, Nat.shiftRight_eq_div_pow]
  omega
theorem own_eqS {args : Array Value} {Z : State} {t : Term} {x : Int32} (h : t.eval args Z none [] Z = some (.int x)) : (Jvm.Cond.eq t (.int 0)).value args Z none Z [] = some (decide (x = 0)) := by
  simp [Cond.value, h, Term.eval]
theorem own_same {n : Nat} {L : List Loc} {h hh : Heap} (q : L = [] ∧ hh = h) : Fr n L ∧ Keep h hh [] := by
  obtain ⟨rfl, rfl⟩ := q
  exact ⟨Fr.nil _, Keep.refl _ _⟩
theorem own_hV {Z : State} {a0 : Array Value} (hw : ∀ d ∈ tables_1, d.before a0 Z = true) : ∀ d ∈ StrChars.Road.words, d.before a0 Z = true := fun d hd => hw d ((by decide +kernel : ∀ w ∈ StrChars.Road.words, w ∈ tables_1) d hd)
theorem own_wS {Z : State} {a0 : Array Value} (hw : ∀ d ∈ tables_1, d.before a0 Z = true) : ∀ a ∈ Bundle.stringAtoms, a.before a0 Z = true := fun d hd => hw d ((by decide +kernel : ∀ w ∈ Bundle.stringAtoms, w ∈ tables_1) d hd)
theorem own_EL {Z : State} {a0 : Array Value} (hw : ∀ d ∈ tables_1, d.before a0 Z = true) : EW Z a0 consts_1 := (EW.cons (hw _ (List.mem_of_getElem? (i := 66) rfl)) (by decide) (EW.cons (hw _ (List.mem_of_getElem? (i := 14) rfl)) (by decide) EW.nil))
theorem own_EL16 {Z : State} {a0 : Array Value} (hw : ∀ d ∈ tables_1, d.before a0 Z = true) : ELn Z a0 consts_1 16 := (ELn.cons (hw _ (List.mem_of_getElem? (i := 66) rfl)) (by decide) (by decide) (ELn.cons (hw _ (List.mem_of_getElem? (i := 14) rfl)) (by decide) (by decide) ELn.nil))

def own_4 (n : Int32) : Prop := n = 0 ∨ n = 1 ∨ n = 2 ∨ n = 3
theorem own_and3 (x : Int32) : own_4 (x &&& 3) := by
  have h1 : (x &&& 3).toBitVec.toNat ≤ 3 := by
    rw [Int32.toBitVec_and, BitVec.toNat_and]; exact Nat.and_le_right
  have key : ∀ b : BitVec 32, b.toNat ≤ 3 → b = 0#32 ∨ b = 1#32 ∨ b = 2#32 ∨ b = 3#32 := fun b hb => by
    rcases Nat.lt_or_ge b.toNat 1 with q | q
    · exact Or.inl (BitVec.eq_of_toNat_eq (by simp; omega))
    · rcases Nat.lt_or_ge b.toNat 2 with q | q
      · exact Or.inr (Or.inl (BitVec.eq_of_toNat_eq (by simp; omega)))
      · rcases Nat.lt_or_ge b.toNat 3 with q | q
        · exact Or.inr (Or.inr (Or.inl (BitVec.eq_of_toNat_eq (by simp; omega))))
        · exact Or.inr (Or.inr (Or.inr (BitVec.eq_of_toNat_eq (by simp; omega))))
  rcases key _ h1 with q | q | q | q
  · exact Or.inl (Int32.toBitVec_inj.mp q)
  · exact Or.inr (Or.inl (Int32.toBitVec_inj.mp q))
  · exact Or.inr (Or.inr (Or.inl (Int32.toBitVec_inj.mp q)))
  · exact Or.inr (Or.inr (Or.inr (Int32.toBitVec_inj.mp q)))

theorem w0 {Z a0} (hw : HW Z a0) : ((Cond.arrayClass FieldType.char)).before a0 Z = true := wa hw 0 rfl
theorem w1 {Z a0} (hw : HW Z a0) : ((Cond.classLink "com/example/colophon/colophon/api/HtmlClosePinLaw" 7 s0)).before a0 Z = true := wa hw 1 rfl
theorem w2 {Z a0} (hw : HW Z a0) : ((Cond.instantiable s0 4)).before a0 Z = true := wa hw 2 rfl
theorem w3 {Z a0} (hw : HW Z a0) : ((Cond.initialized s0)).before a0 Z = true := wa hw 3 rfl
theorem w4 {Z a0} (hw : HW Z a0) : ((Cond.methodLink "com/example/colophon/colophon/api/HtmlClosePinLaw" 9 mn1)).before a0 Z = true := wa hw 4 rfl
theorem w5 {Z a0} (hw : HW Z a0) : ((Cond.instanceMethod mn1)).before a0 Z = true := wa hw 5 rfl
theorem w6 {Z a0} (hw : HW Z a0) : ((Cond.code mn1 jdk_42_method_3_code 2 (Option.none : Option Jvm.ClassFile.FieldType))).before a0 Z = true := wa hw 6 rfl
theorem w7 {Z a0} (hw : HW Z a0) : ((Cond.methodLink s0 27 mn0)).before a0 Z = true := wa hw 7 rfl
theorem w8 {Z a0} (hw : HW Z a0) : ((Cond.instanceMethod mn0)).before a0 Z = true := wa hw 8 rfl
theorem w10 {Z a0} (hw : HW Z a0) : ((Cond.code mn0 jdk_42_method_149_code 6 (Option.none : Option Jvm.ClassFile.FieldType))).before a0 Z = true := wa hw 10 rfl
theorem w11 {Z a0} (hw : HW Z a0) : ((Cond.methodLink s0 1 ⟨"java/lang/Object", "<init>", "()V"⟩)).before a0 Z = true := wa hw 11 rfl
theorem w12 {Z a0} (hw : HW Z a0) : ((Cond.instanceMethod ⟨"java/lang/Object", "<init>", "()V"⟩)).before a0 Z = true := wa hw 12 rfl
theorem w13 {Z a0} (hw : HW Z a0) : ((Cond.code ⟨"java/lang/Object", "<init>", "()V"⟩ object_method_1_code 1 (Option.none : Option Jvm.ClassFile.FieldType))).before a0 Z = true := wa hw 13 rfl
theorem w14 {Z a0} (hw : HW Z a0) : ((Cond.stringLink s0 7 "")).before a0 Z = true := wa hw 14 rfl
theorem w15 {Z a0} (hw : HW Z a0) : ((Cond.arrayClass FieldType.byte)).before a0 Z = true := wa hw 15 rfl
theorem w16 {Z a0} (hw : HW Z a0) : ((Cond.laysFinal s0 s0 "value" "[B")).before a0 Z = true := wa hw 16 rfl
theorem w17 {Z a0} (hw : HW Z a0) : ((Cond.laysFinal s0 s0 "coder" "B")).before a0 Z = true := wa hw 17 rfl
theorem w20 {Z a0} (hw : HW Z a0) : ((Cond.fieldLink s0 9 s0 "value" "[B")).before a0 Z = true := wa hw 20 rfl
theorem w21 {Z a0} (hw : HW Z a0) : ((Cond.fieldLink s0 15 s0 "coder" "B")).before a0 Z = true := wa hw 21 rfl
theorem w22 {Z a0} (hw : HW Z a0) : ((Cond.fieldLink s0 38 s0 s3 "Z")).before a0 Z = true := wa hw 22 rfl
theorem w33 {Z a0} (hw : HW Z a0) : ((Cond.arrayOver (FieldType.object s0))).before a0 Z = true := wa hw 33 rfl
theorem w34 {Z a0} (hw : HW Z a0) : ((Cond.classLink "com/example/colophon/colophon/api/HtmlClosePinLaw" 12 s4)).before a0 Z = true := wa hw 34 rfl
theorem w35 {Z a0} (hw : HW Z a0) : ((Cond.instantiable s4 1)).before a0 Z = true := wa hw 35 rfl
theorem w36 {Z a0} (hw : HW Z a0) : ((Cond.initialized s4)).before a0 Z = true := wa hw 36 rfl
theorem w37 {Z a0} (hw : HW Z a0) : ((Cond.methodLink "com/example/colophon/colophon/api/HtmlClosePinLaw" 14 mn4)).before a0 Z = true := wa hw 37 rfl
theorem w38 {Z a0} (hw : HW Z a0) : ((Cond.instanceMethod mn4)).before a0 Z = true := wa hw 38 rfl
theorem w39 {Z a0} (hw : HW Z a0) : ((Cond.code mn4 prog_5_method_1_code 1 (Option.none : Option Jvm.ClassFile.FieldType))).before a0 Z = true := wa hw 39 rfl
theorem w40 {Z a0} (hw : HW Z a0) : ((Cond.methodLink s4 1 ⟨"java/lang/Object", "<init>", "()V"⟩)).before a0 Z = true := wa hw 40 rfl
theorem w41 {Z a0} (hw : HW Z a0) : ((Cond.classLink s4 7 s2)).before a0 Z = true := wa hw 41 rfl
theorem w42 {Z a0} (hw : HW Z a0) : ((Cond.instantiable s2 4)).before a0 Z = true := wa hw 42 rfl
theorem w43 {Z a0} (hw : HW Z a0) : ((Cond.initialized s2)).before a0 Z = true := wa hw 43 rfl
theorem w44 {Z a0} (hw : HW Z a0) : ((Cond.methodLink s4 9 mn3)).before a0 Z = true := wa hw 44 rfl
theorem w45 {Z a0} (hw : HW Z a0) : ((Cond.instanceMethod mn3)).before a0 Z = true := wa hw 45 rfl
theorem w46 {Z a0} (hw : HW Z a0) : ((Cond.code mn3 jdk_67_method_1_code 1 (Option.none : Option Jvm.ClassFile.FieldType))).before a0 Z = true := wa hw 46 rfl
theorem w47 {Z a0} (hw : HW Z a0) : ((Cond.methodLink s2 1 mn2)).before a0 Z = true := wa hw 47 rfl
theorem w48 {Z a0} (hw : HW Z a0) : ((Cond.instanceMethod mn2)).before a0 Z = true := wa hw 48 rfl
theorem w51 {Z a0} (hw : HW Z a0) : ((Cond.initialized s1)).before a0 Z = true := wa hw 51 rfl
theorem w52 {Z a0} (hw : HW Z a0) : ((Cond.code mn2 jdk_68_method_2_code 2 (Option.none : Option Jvm.ClassFile.FieldType))).before a0 Z = true := wa hw 52 rfl
theorem w53 {Z a0} (hw : HW Z a0) : ((Cond.methodLink s1 3 ⟨"java/lang/Object", "<init>", "()V"⟩)).before a0 Z = true := wa hw 53 rfl
theorem w54 {Z a0} (hw : HW Z a0) : ((Cond.fieldLink s1 18 s0 s3 "Z")).before a0 Z = true := wa hw 54 rfl
theorem w55 {Z a0} (hw : HW Z a0) : ((Cond.fieldLink s1 15 s1 "value" "[B")).before a0 Z = true := wa hw 55 rfl
theorem w56 {Z a0} (hw : HW Z a0) : ((Cond.lays s2 s1 "value" "[B")).before a0 Z = true := wa hw 56 rfl
theorem w57 {Z a0} (hw : HW Z a0) : ((Cond.fieldLink s1 22 s1 "coder" "B")).before a0 Z = true := wa hw 57 rfl
theorem w58 {Z a0} (hw : HW Z a0) : ((Cond.lays s2 s1 "coder" "B")).before a0 Z = true := wa hw 58 rfl
theorem w59 {Z a0} (hw : HW Z a0) : ((Cond.fieldLink s4 10 s4 "out" s5)).before a0 Z = true := wa hw 59 rfl
theorem w60 {Z a0} (hw : HW Z a0) : ((Cond.laysFinal s4 s4 "out" s5)).before a0 Z = true := wa hw 60 rfl
theorem w61 {Z a0} (hw : HW Z a0) : ((Cond.methodLink "com/example/colophon/colophon/api/HtmlClosePinLaw" 23 mn17)).before a0 Z = true := wa hw 61 rfl
theorem w62 {Z a0} (hw : HW Z a0) : ((Cond.declares mn17)).before a0 Z = true := wa hw 62 rfl
theorem w63 {Z a0} (hw : HW Z a0) : ((Cond.instanceMethod mn17)).before a0 Z = true := wa hw 63 rfl
theorem w64 {Z a0} (hw : HW Z a0) : ((Cond.selects s4 mn17 mn17)).before a0 Z = true := wa hw 64 rfl
theorem w65 {Z a0} (hw : HW Z a0) : ((Cond.code mn17 prog_5_method_3_code 2 (Option.some (FieldType.object s4)))).before a0 Z = true := wa hw 65 rfl
theorem w66 {Z a0} (hw : HW Z a0) : ((Cond.stringLink s4 36 "</")).before a0 Z = true := wa hw 66 rfl
theorem w67 {Z a0} (hw : HW Z a0) : ((Cond.methodLink s4 27 mn12)).before a0 Z = true := wa hw 67 rfl
theorem w68 {Z a0} (hw : HW Z a0) : ((Cond.declares mn12)).before a0 Z = true := wa hw 68 rfl
theorem w69 {Z a0} (hw : HW Z a0) : ((Cond.instanceMethod mn12)).before a0 Z = true := wa hw 69 rfl
theorem w70 {Z a0} (hw : HW Z a0) : ((Cond.selects s2 mn12 mn12)).before a0 Z = true := wa hw 70 rfl
theorem w71 {Z a0} (hw : HW Z a0) : ((Cond.code mn12 jdk_67_method_7_code 2 (Option.some (FieldType.object s2)))).before a0 Z = true := wa hw 71 rfl
theorem w72 {Z a0} (hw : HW Z a0) : ((Cond.methodLink s2 29 mn11)).before a0 Z = true := wa hw 72 rfl
theorem w73 {Z a0} (hw : HW Z a0) : ((Cond.instanceMethod mn11)).before a0 Z = true := wa hw 73 rfl
theorem w74 {Z a0} (hw : HW Z a0) : ((Cond.superclass s2 s1)).before a0 Z = true := wa hw 74 rfl
theorem w76 {Z a0} (hw : HW Z a0) : ((Cond.code mn11 jdk_68_method_22_code 3 (Option.some (FieldType.object s1)))).before a0 Z = true := wa hw 76 rfl
theorem w77 {Z a0} (hw : HW Z a0) : ((Cond.methodLink s1 32 mn6)).before a0 Z = true := wa hw 77 rfl
theorem w78 {Z a0} (hw : HW Z a0) : ((Cond.declares mn6)).before a0 Z = true := wa hw 78 rfl
theorem w79 {Z a0} (hw : HW Z a0) : ((Cond.instanceMethod mn6)).before a0 Z = true := wa hw 79 rfl
theorem w80 {Z a0} (hw : HW Z a0) : ((Cond.selects s0 mn6 mn6)).before a0 Z = true := wa hw 80 rfl
theorem w81 {Z a0} (hw : HW Z a0) : ((Cond.code mn6 jdk_42_method_54_code 1 (Option.some FieldType.int))).before a0 Z = true := wa hw 81 rfl
theorem w82 {Z a0} (hw : HW Z a0) : ((Cond.methodLink s0 335 mn5)).before a0 Z = true := wa hw 82 rfl
theorem w83 {Z a0} (hw : HW Z a0) : ((Cond.declares mn5)).before a0 Z = true := wa hw 83 rfl
theorem w84 {Z a0} (hw : HW Z a0) : ((Cond.instanceMethod mn5)).before a0 Z = true := wa hw 84 rfl
theorem w85 {Z a0} (hw : HW Z a0) : ((Cond.selects s0 mn5 mn5)).before a0 Z = true := wa hw 85 rfl
theorem w86 {Z a0} (hw : HW Z a0) : ((Cond.code mn5 jdk_42_method_152_code 1 (Option.some FieldType.byte))).before a0 Z = true := wa hw 86 rfl
theorem w87 {Z a0} (hw : HW Z a0) : ((Cond.fieldLink s1 79 s1 "count" "I")).before a0 Z = true := wa hw 87 rfl
theorem w88 {Z a0} (hw : HW Z a0) : ((Cond.lays s2 s1 "count" "I")).before a0 Z = true := wa hw 88 rfl
theorem w89 {Z a0} (hw : HW Z a0) : ((Cond.methodLink s1 100 mn7)).before a0 Z = true := wa hw 89 rfl
theorem w90 {Z a0} (hw : HW Z a0) : ((Cond.instanceMethod mn7)).before a0 Z = true := wa hw 90 rfl
theorem w91 {Z a0} (hw : HW Z a0) : ((Cond.privateMethod mn7)).before a0 Z = true := wa hw 91 rfl
theorem w92 {Z a0} (hw : HW Z a0) : ((Cond.selects s2 mn7 mn7)).before a0 Z = true := wa hw 92 rfl
theorem w93 {Z a0} (hw : HW Z a0) : ((Cond.code mn7 jdk_68_method_9_code 3 (Option.none : Option Jvm.ClassFile.FieldType))).before a0 Z = true := wa hw 93 rfl
theorem w94 {Z a0} (hw : HW Z a0) : ((Cond.methodLink s1 208 mn10)).before a0 Z = true := wa hw 94 rfl
theorem w95 {Z a0} (hw : HW Z a0) : ((Cond.instanceMethod mn10)).before a0 Z = true := wa hw 95 rfl
theorem w96 {Z a0} (hw : HW Z a0) : ((Cond.privateMethod mn10)).before a0 Z = true := wa hw 96 rfl
theorem w97 {Z a0} (hw : HW Z a0) : ((Cond.selects s2 mn10 mn10)).before a0 Z = true := wa hw 97 rfl
theorem w98 {Z a0} (hw : HW Z a0) : ((Cond.code mn10 jdk_68_method_73_code 3 (Option.none : Option Jvm.ClassFile.FieldType))).before a0 Z = true := wa hw 98 rfl
theorem w99 {Z a0} (hw : HW Z a0) : ((Cond.methodLink s1 397 mn8)).before a0 Z = true := wa hw 99 rfl
theorem w100 {Z a0} (hw : HW Z a0) : ((Cond.instanceMethod mn8)).before a0 Z = true := wa hw 100 rfl
theorem w101 {Z a0} (hw : HW Z a0) : ((Cond.privateMethod mn8)).before a0 Z = true := wa hw 101 rfl
theorem w102 {Z a0} (hw : HW Z a0) : ((Cond.selects s2 mn8 mn8)).before a0 Z = true := wa hw 102 rfl
theorem w103 {Z a0} (hw : HW Z a0) : ((Cond.code mn8 jdk_68_method_71_code 2 (Option.none : Option Jvm.ClassFile.FieldType))).before a0 Z = true := wa hw 103 rfl
theorem w104 {Z a0} (hw : HW Z a0) : ((Cond.methodLink s1 40 mn5)).before a0 Z = true := wa hw 104 rfl
theorem w105 {Z a0} (hw : HW Z a0) : ((Cond.methodLink s1 399 mn9)).before a0 Z = true := wa hw 105 rfl
theorem w106 {Z a0} (hw : HW Z a0) : ((Cond.declares mn9)).before a0 Z = true := wa hw 106 rfl
theorem w107 {Z a0} (hw : HW Z a0) : ((Cond.instanceMethod mn9)).before a0 Z = true := wa hw 107 rfl
theorem w108 {Z a0} (hw : HW Z a0) : ((Cond.selects s0 mn9 mn9)).before a0 Z = true := wa hw 108 rfl
theorem w109 {Z a0} (hw : HW Z a0) : ((Cond.code mn9 jdk_42_method_147_code 4 (Option.none : Option Jvm.ClassFile.FieldType))).before a0 Z = true := wa hw 109 rfl
theorem w110 {Z a0} (hw : HW Z a0) : ((Cond.methodLink s0 212 ⟨"java/lang/System", "arraycopy", "(Ljava/lang/Object;ILjava/lang/Object;II)V"⟩)).before a0 Z = true := wa hw 110 rfl
theorem w111 {Z a0} (hw : HW Z a0) : ((Cond.static ⟨"java/lang/System", "arraycopy", "(Ljava/lang/Object;ILjava/lang/Object;II)V"⟩)).before a0 Z = true := wa hw 111 rfl
theorem w112 {Z a0} (hw : HW Z a0) : ((Cond.initialized "java/lang/System")).before a0 Z = true := wa hw 112 rfl
theorem w113 {Z a0} (hw : HW Z a0) : ((Cond.native ⟨"java/lang/System", "arraycopy", "(Ljava/lang/Object;ILjava/lang/Object;II)V"⟩)).before a0 Z = true := wa hw 113 rfl
theorem w114 {Z a0} (hw : HW Z a0) : ((Cond.methodLink s4 23 mn16)).before a0 Z = true := wa hw 114 rfl
theorem w115 {Z a0} (hw : HW Z a0) : ((Cond.declares mn16)).before a0 Z = true := wa hw 115 rfl
theorem w116 {Z a0} (hw : HW Z a0) : ((Cond.instanceMethod mn16)).before a0 Z = true := wa hw 116 rfl
theorem w117 {Z a0} (hw : HW Z a0) : ((Cond.selects s2 mn16 mn16)).before a0 Z = true := wa hw 117 rfl
theorem w118 {Z a0} (hw : HW Z a0) : ((Cond.code mn16 jdk_67_method_14_code 2 (Option.some (FieldType.object s2)))).before a0 Z = true := wa hw 118 rfl
theorem w119 {Z a0} (hw : HW Z a0) : ((Cond.methodLink s2 50 mn15)).before a0 Z = true := wa hw 119 rfl
theorem w120 {Z a0} (hw : HW Z a0) : ((Cond.instanceMethod mn15)).before a0 Z = true := wa hw 120 rfl
theorem w122 {Z a0} (hw : HW Z a0) : ((Cond.code mn15 jdk_68_method_31_code 2 (Option.some (FieldType.object s1)))).before a0 Z = true := wa hw 122 rfl
theorem w123 {Z a0} (hw : HW Z a0) : ((Cond.methodLink s1 83 mn13)).before a0 Z = true := wa hw 123 rfl
theorem w124 {Z a0} (hw : HW Z a0) : ((Cond.declares mn13)).before a0 Z = true := wa hw 124 rfl
theorem w125 {Z a0} (hw : HW Z a0) : ((Cond.instanceMethod mn13)).before a0 Z = true := wa hw 125 rfl
theorem w126 {Z a0} (hw : HW Z a0) : ((Cond.selects s2 mn13 mn13)).before a0 Z = true := wa hw 126 rfl
theorem w127 {Z a0} (hw : HW Z a0) : ((Cond.code mn13 jdk_68_method_68_code 1 (Option.some FieldType.boolean))).before a0 Z = true := wa hw 127 rfl
theorem w128 {Z a0} (hw : HW Z a0) : ((Cond.methodLink s1 191 mn14)).before a0 Z = true := wa hw 128 rfl
theorem w129 {Z a0} (hw : HW Z a0) : ((Cond.static mn14)).before a0 Z = true := wa hw 129 rfl
theorem w130 {Z a0} (hw : HW Z a0) : ((Cond.initialized "java/lang/StringLatin1")).before a0 Z = true := wa hw 130 rfl
theorem w131 {Z a0} (hw : HW Z a0) : ((Cond.code mn14 jdk_43_method_3_code 1 (Option.some FieldType.boolean))).before a0 Z = true := wa hw 131 rfl
theorem w132 {Z a0} (hw : HW Z a0) : ((Cond.methodLink "com/example/colophon/colophon/api/HtmlClosePinLaw" 27 mn28)).before a0 Z = true := wa hw 132 rfl
theorem w133 {Z a0} (hw : HW Z a0) : ((Cond.declares mn28)).before a0 Z = true := wa hw 133 rfl
theorem w134 {Z a0} (hw : HW Z a0) : ((Cond.instanceMethod mn28)).before a0 Z = true := wa hw 134 rfl
theorem w135 {Z a0} (hw : HW Z a0) : ((Cond.selects s4 mn28 mn28)).before a0 Z = true := wa hw 135 rfl
theorem w136 {Z a0} (hw : HW Z a0) : ((Cond.code mn28 prog_5_method_8_code 1 (Option.some (FieldType.object s0)))).before a0 Z = true := wa hw 136 rfl
theorem w137 {Z a0} (hw : HW Z a0) : ((Cond.methodLink s4 62 mn27)).before a0 Z = true := wa hw 137 rfl
theorem w138 {Z a0} (hw : HW Z a0) : ((Cond.declares mn27)).before a0 Z = true := wa hw 138 rfl
theorem w139 {Z a0} (hw : HW Z a0) : ((Cond.instanceMethod mn27)).before a0 Z = true := wa hw 139 rfl
theorem w140 {Z a0} (hw : HW Z a0) : ((Cond.selects s2 mn27 mn27)).before a0 Z = true := wa hw 140 rfl
theorem w141 {Z a0} (hw : HW Z a0) : ((Cond.code mn27 jdk_67_method_42_code 1 (Option.some (FieldType.object s0)))).before a0 Z = true := wa hw 141 rfl
theorem w142 {Z a0} (hw : HW Z a0) : ((Cond.classLink s2 18 s0)).before a0 Z = true := wa hw 142 rfl
theorem w143 {Z a0} (hw : HW Z a0) : ((Cond.methodLink s2 137 mn26)).before a0 Z = true := wa hw 143 rfl
theorem w144 {Z a0} (hw : HW Z a0) : ((Cond.instanceMethod mn26)).before a0 Z = true := wa hw 144 rfl
theorem w145 {Z a0} (hw : HW Z a0) : ((Cond.code mn26 jdk_42_method_53_code 2 (Option.none : Option Jvm.ClassFile.FieldType))).before a0 Z = true := wa hw 145 rfl
theorem w146 {Z a0} (hw : HW Z a0) : ((Cond.methodLink s0 489 mn25)).before a0 Z = true := wa hw 146 rfl
theorem w147 {Z a0} (hw : HW Z a0) : ((Cond.instanceMethod mn25)).before a0 Z = true := wa hw 147 rfl
theorem w148 {Z a0} (hw : HW Z a0) : ((Cond.code mn25 jdk_42_method_150_code 5 (Option.none : Option Jvm.ClassFile.FieldType))).before a0 Z = true := wa hw 148 rfl
theorem w149 {Z a0} (hw : HW Z a0) : ((Cond.methodLink s0 552 mn18)).before a0 Z = true := wa hw 149 rfl
theorem w150 {Z a0} (hw : HW Z a0) : ((Cond.declares mn18)).before a0 Z = true := wa hw 150 rfl
theorem w151 {Z a0} (hw : HW Z a0) : ((Cond.instanceMethod mn18)).before a0 Z = true := wa hw 151 rfl
theorem w152 {Z a0} (hw : HW Z a0) : ((Cond.selects s2 mn18 mn18)).before a0 Z = true := wa hw 152 rfl
theorem w153 {Z a0} (hw : HW Z a0) : ((Cond.code mn18 jdk_68_method_64_code 1 (Option.some (FieldType.array FieldType.byte)))).before a0 Z = true := wa hw 153 rfl
theorem w154 {Z a0} (hw : HW Z a0) : ((Cond.methodLink s0 549 mn19)).before a0 Z = true := wa hw 154 rfl
theorem w155 {Z a0} (hw : HW Z a0) : ((Cond.declares mn19)).before a0 Z = true := wa hw 155 rfl
theorem w156 {Z a0} (hw : HW Z a0) : ((Cond.instanceMethod mn19)).before a0 Z = true := wa hw 156 rfl
theorem w157 {Z a0} (hw : HW Z a0) : ((Cond.selects s2 mn19 mn20)).before a0 Z = true := wa hw 157 rfl
theorem w158 {Z a0} (hw : HW Z a0) : ((Cond.instanceMethod mn20)).before a0 Z = true := wa hw 158 rfl
theorem w159 {Z a0} (hw : HW Z a0) : ((Cond.code mn20 jdk_67_method_93_code 1 (Option.some FieldType.int))).before a0 Z = true := wa hw 159 rfl
theorem w160 {Z a0} (hw : HW Z a0) : ((Cond.methodLink s2 343 mn19)).before a0 Z = true := wa hw 160 rfl
theorem w161 {Z a0} (hw : HW Z a0) : ((Cond.code mn19 jdk_68_method_6_code 1 (Option.some FieldType.int))).before a0 Z = true := wa hw 161 rfl
theorem w162 {Z a0} (hw : HW Z a0) : ((Cond.methodLink s0 1047 mn13)).before a0 Z = true := wa hw 162 rfl
theorem w163 {Z a0} (hw : HW Z a0) : ((Cond.methodLink s0 54 mn24)).before a0 Z = true := wa hw 163 rfl
theorem w164 {Z a0} (hw : HW Z a0) : ((Cond.static mn24)).before a0 Z = true := wa hw 164 rfl
theorem w165 {Z a0} (hw : HW Z a0) : ((Cond.initialized "java/util/Arrays")).before a0 Z = true := wa hw 165 rfl
theorem w166 {Z a0} (hw : HW Z a0) : ((Cond.code mn24 jdk_65_method_132_code 3 (Option.some (FieldType.array FieldType.byte)))).before a0 Z = true := wa hw 166 rfl
theorem w167 {Z a0} (hw : HW Z a0) : ((Cond.methodLink "java/util/Arrays" 339 mn23)).before a0 Z = true := wa hw 167 rfl
theorem w168 {Z a0} (hw : HW Z a0) : ((Cond.static mn23)).before a0 Z = true := wa hw 168 rfl
theorem w169 {Z a0} (hw : HW Z a0) : ((Cond.code mn23 jdk_65_method_133_code 5 (Option.some (FieldType.array FieldType.byte)))).before a0 Z = true := wa hw 169 rfl
theorem w170 {Z a0} (hw : HW Z a0) : ((Cond.methodLink "java/util/Arrays" 343 mn21)).before a0 Z = true := wa hw 170 rfl
theorem w171 {Z a0} (hw : HW Z a0) : ((Cond.static mn21)).before a0 Z = true := wa hw 171 rfl
theorem w172 {Z a0} (hw : HW Z a0) : ((Cond.code mn21 jdk_65_method_131_code 2 (Option.none : Option Jvm.ClassFile.FieldType))).before a0 Z = true := wa hw 172 rfl
theorem w173 {Z a0} (hw : HW Z a0) : ((Cond.methodLink "java/util/Arrays" 304 mn22)).before a0 Z = true := wa hw 173 rfl
theorem w174 {Z a0} (hw : HW Z a0) : ((Cond.static mn22)).before a0 Z = true := wa hw 174 rfl
theorem w175 {Z a0} (hw : HW Z a0) : ((Cond.initialized "java/lang/Math")).before a0 Z = true := wa hw 175 rfl
theorem w176 {Z a0} (hw : HW Z a0) : ((Cond.code mn22 jdk_29_method_69_code 2 (Option.some FieldType.int))).before a0 Z = true := wa hw 176 rfl
theorem w177 {Z a0} (hw : HW Z a0) : ((Cond.methodLink "java/util/Arrays" 150 ⟨"java/lang/System", "arraycopy", "(Ljava/lang/Object;ILjava/lang/Object;II)V"⟩)).before a0 Z = true := wa hw 177 rfl
theorem w178 {Z a0} (hw : HW Z a0) : ((Cond.methodLink "com/example/colophon/colophon/api/HtmlClosePinLaw" 31 mn30)).before a0 Z = true := wa hw 178 rfl
theorem w179 {Z a0} (hw : HW Z a0) : ((Cond.declares mn30)).before a0 Z = true := wa hw 179 rfl
theorem w180 {Z a0} (hw : HW Z a0) : ((Cond.instanceMethod mn30)).before a0 Z = true := wa hw 180 rfl
theorem w181 {Z a0} (hw : HW Z a0) : ((Cond.selects s0 mn30 mn30)).before a0 Z = true := wa hw 181 rfl
theorem w182 {Z a0} (hw : HW Z a0) : ((Cond.code mn30 jdk_42_method_66_code 3 (Option.some FieldType.boolean))).before a0 Z = true := wa hw 182 rfl
theorem w183 {Z a0} (hw : HW Z a0) : ((Cond.classLink s0 10 s0)).before a0 Z = true := wa hw 183 rfl
theorem w184 {Z a0} (hw : HW Z a0) : ((Cond.methodLink s0 541 mn29)).before a0 Z = true := wa hw 184 rfl
theorem w185 {Z a0} (hw : HW Z a0) : ((Cond.static mn29)).before a0 Z = true := wa hw 185 rfl
theorem w186 {Z a0} (hw : HW Z a0) : ((Cond.code mn29 jdk_43_method_13_code 3 (Option.some FieldType.boolean))).before a0 Z = true := wa hw 186 rfl
theorem w187 {Z a0} (hw : HW Z a0) : ((Cond.methodLink "com/example/colophon/colophon/api/HtmlClosePinLaw" 15 mn33)).before a0 Z = true := wa hw 187 rfl
theorem w188 {Z a0} (hw : HW Z a0) : ((Cond.static mn33)).before a0 Z = true := wa hw 188 rfl
theorem w189 {Z a0} (hw : HW Z a0) : ((Cond.code mn33 jdk_42_method_139_code 1 (Option.some (FieldType.object s0)))).before a0 Z = true := wa hw 189 rfl
theorem w190 {Z a0} (hw : HW Z a0) : ((Cond.methodLink s0 1015 mn14)).before a0 Z = true := wa hw 190 rfl
theorem w191 {Z a0} (hw : HW Z a0) : ((Cond.methodLink s0 1018 mn31)).before a0 Z = true := wa hw 191 rfl
theorem w192 {Z a0} (hw : HW Z a0) : ((Cond.static mn31)).before a0 Z = true := wa hw 192 rfl
theorem w193 {Z a0} (hw : HW Z a0) : ((Cond.code mn31 jdk_43_method_46_code 1 (Option.some (FieldType.array FieldType.byte)))).before a0 Z = true := wa hw 193 rfl
theorem w194 {Z a0} (hw : HW Z a0) : ((Cond.methodLink s0 209 mn32)).before a0 Z = true := wa hw 194 rfl
theorem w195 {Z a0} (hw : HW Z a0) : ((Cond.instanceMethod mn32)).before a0 Z = true := wa hw 195 rfl
theorem w196 {Z a0} (hw : HW Z a0) : ((Cond.code mn32 jdk_42_method_151_code 3 (Option.none : Option Jvm.ClassFile.FieldType))).before a0 Z = true := wa hw 196 rfl
theorem w197 {Z a0} (hw : HW Z a0) : ((Cond.methodLink "com/example/colophon/colophon/api/HtmlClosePinLaw" 19 mn34)).before a0 Z = true := wa hw 197 rfl
theorem w198 {Z a0} (hw : HW Z a0) : ((Cond.declares mn34)).before a0 Z = true := wa hw 198 rfl
theorem w199 {Z a0} (hw : HW Z a0) : ((Cond.instanceMethod mn34)).before a0 Z = true := wa hw 199 rfl
theorem w200 {Z a0} (hw : HW Z a0) : ((Cond.selects s4 mn34 mn34)).before a0 Z = true := wa hw 200 rfl
theorem w201 {Z a0} (hw : HW Z a0) : ((Cond.code mn34 prog_5_method_2_code 4 (Option.some (FieldType.object s4)))).before a0 Z = true := wa hw 201 rfl
theorem d1_0 : dc c0_ 0 (.aload_n 0) 1 := by decide +kernel
theorem d1_1 : dc c0_ 1 (.aload_n 1) 1 := by decide +kernel
theorem d1_2 : dc c0_ 2 (.iconst 0) 1 := by decide +kernel
theorem d1_3 : dc c0_ 3 (.aload_n 1) 1 := by decide +kernel
theorem d1_4 : dc c0_ 4 (.arraylength) 1 := by decide +kernel
theorem d1_5 : dc c0_ 5 (.aconst_null) 1 := by decide +kernel
theorem d1_6 : dc c0_ 6 (.invokespecial 27) 3 := by decide +kernel
theorem d1_9 : dc c0_ 9 (.return_) 1 := by decide +kernel
theorem d2_0 : dc c1_ 0 (.aload_n 0) 1 := by decide +kernel
theorem d2_1 : dc c1_ 1 (.invokespecial 1) 3 := by decide +kernel
theorem d2_4 : dc c1_ 4 (.iload_n 3) 1 := by decide +kernel
theorem d2_5 : dc c1_ 5 (.ifCond .ne 22) 3 := by decide +kernel
theorem d2_8 : dc c1_ 8 (.aload_n 0) 1 := by decide +kernel
theorem d2_9 : dc c1_ 9 (.ldc 7) 2 := by decide +kernel
theorem d2_11 : dc c1_ 11 (.getfield 9) 3 := by decide +kernel
theorem d2_14 : dc c1_ 14 (.putfield 9) 3 := by decide +kernel
theorem d2_17 : dc c1_ 17 (.aload_n 0) 1 := by decide +kernel
theorem d2_18 : dc c1_ 18 (.ldc 7) 2 := by decide +kernel
theorem d2_20 : dc c1_ 20 (.getfield 15) 3 := by decide +kernel
theorem d2_23 : dc c1_ 23 (.putfield 15) 3 := by decide +kernel
theorem d2_26 : dc c1_ 26 (.return_) 1 := by decide +kernel
theorem d7_0 : dc c2_ 0 (.aload_n 0) 1 := by decide +kernel
theorem d7_1 : dc c2_ 1 (.invokespecial 1) 3 := by decide +kernel
theorem d7_4 : dc c2_ 4 (.aload_n 0) 1 := by decide +kernel
theorem d7_5 : dc c2_ 5 (.new 7) 3 := by decide +kernel
theorem d7_8 : dc c2_ 8 (.dup) 1 := by decide +kernel
theorem d7_9 : dc c2_ 9 (.invokespecial 9) 3 := by decide +kernel
theorem d7_12 : dc c2_ 12 (.putfield 10) 3 := by decide +kernel
theorem d7_15 : dc c2_ 15 (.return_) 1 := by decide +kernel
theorem d8_0 : dc c3_ 0 (.aload_n 0) 1 := by decide +kernel
theorem d8_1 : dc c3_ 1 (.bipush 16) 2 := by decide +kernel
theorem d8_3 : dc c3_ 3 (.invokespecial 1) 3 := by decide +kernel
theorem d8_6 : dc c3_ 6 (.return_) 1 := by decide +kernel
theorem d9_0 : dc c4_ 0 (.aload_n 0) 1 := by decide +kernel
theorem d9_1 : dc c4_ 1 (.invokespecial 3) 3 := by decide +kernel
theorem d9_4 : dc c4_ 4 (.getstatic 18) 3 := by decide +kernel
theorem d9_7 : dc c4_ 7 (.ifCond .eq 18) 3 := by decide +kernel
theorem d9_10 : dc c4_ 10 (.aload_n 0) 1 := by decide +kernel
theorem d9_11 : dc c4_ 11 (.iload_n 1) 1 := by decide +kernel
theorem d9_12 : dc c4_ 12 (.newarray .byte) 2 := by decide +kernel
theorem d9_14 : dc c4_ 14 (.putfield 15) 3 := by decide +kernel
theorem d9_17 : dc c4_ 17 (.aload_n 0) 1 := by decide +kernel
theorem d9_18 : dc c4_ 18 (.iconst 0) 1 := by decide +kernel
theorem d9_19 : dc c4_ 19 (.putfield 22) 3 := by decide +kernel
theorem d9_22 : dc c4_ 22 (.goto 16) 3 := by decide +kernel
theorem d9_38 : dc c4_ 38 (.return_) 1 := by decide +kernel
theorem d10_0 : dc c5_ 0 (.aload_n 0) 1 := by decide +kernel
theorem d10_1 : dc c5_ 1 (.getfield 10) 3 := by decide +kernel
theorem d10_4 : dc c5_ 4 (.ldc 36) 2 := by decide +kernel
theorem d10_6 : dc c5_ 6 (.invokevirtual 27) 3 := by decide +kernel
theorem d10_9 : dc c5_ 9 (.aload_n 1) 1 := by decide +kernel
theorem d10_10 : dc c5_ 10 (.invokevirtual 27) 3 := by decide +kernel
theorem d10_13 : dc c5_ 13 (.bipush 62) 2 := by decide +kernel
theorem d10_15 : dc c5_ 15 (.invokevirtual 23) 3 := by decide +kernel
theorem d10_18 : dc c5_ 18 (.pop) 1 := by decide +kernel
theorem d10_19 : dc c5_ 19 (.aload_n 0) 1 := by decide +kernel
theorem d10_20 : dc c5_ 20 (.areturn) 1 := by decide +kernel
theorem d11_0 : dc c6_ 0 (.aload_n 0) 1 := by decide +kernel
theorem d11_1 : dc c6_ 1 (.aload_n 1) 1 := by decide +kernel
theorem d11_2 : dc c6_ 2 (.invokespecial 29) 3 := by decide +kernel
theorem d11_5 : dc c6_ 5 (.pop) 1 := by decide +kernel
theorem d11_6 : dc c6_ 6 (.aload_n 0) 1 := by decide +kernel
theorem d11_7 : dc c6_ 7 (.areturn) 1 := by decide +kernel
theorem d12_0 : dc c7_ 0 (.aload_n 1) 1 := by decide +kernel
theorem d12_1 : dc c7_ 1 (.ifnonnull 8) 3 := by decide +kernel
theorem d12_9 : dc c7_ 9 (.aload_n 1) 1 := by decide +kernel
theorem d12_10 : dc c7_ 10 (.invokevirtual 32) 3 := by decide +kernel
theorem d12_13 : dc c7_ 13 (.istore_n 2) 1 := by decide +kernel
theorem d12_14 : dc c7_ 14 (.aload_n 0) 1 := by decide +kernel
theorem d12_15 : dc c7_ 15 (.aload_n 0) 1 := by decide +kernel
theorem d12_16 : dc c7_ 16 (.getfield 79) 3 := by decide +kernel
theorem d12_19 : dc c7_ 19 (.iload_n 2) 1 := by decide +kernel
theorem d12_20 : dc c7_ 20 (.iadd) 1 := by decide +kernel
theorem d12_21 : dc c7_ 21 (.invokevirtual 100) 3 := by decide +kernel
theorem d12_24 : dc c7_ 24 (.aload_n 0) 1 := by decide +kernel
theorem d12_25 : dc c7_ 25 (.aload_n 0) 1 := by decide +kernel
theorem d12_26 : dc c7_ 26 (.getfield 79) 3 := by decide +kernel
theorem d12_29 : dc c7_ 29 (.aload_n 1) 1 := by decide +kernel
theorem d12_30 : dc c7_ 30 (.invokevirtual 208) 3 := by decide +kernel
theorem d12_33 : dc c7_ 33 (.aload_n 0) 1 := by decide +kernel
theorem d12_34 : dc c7_ 34 (.dup) 1 := by decide +kernel
theorem d12_35 : dc c7_ 35 (.getfield 79) 3 := by decide +kernel
theorem d12_38 : dc c7_ 38 (.iload_n 2) 1 := by decide +kernel
theorem d12_39 : dc c7_ 39 (.iadd) 1 := by decide +kernel
theorem d12_40 : dc c7_ 40 (.putfield 79) 3 := by decide +kernel
theorem d12_43 : dc c7_ 43 (.aload_n 0) 1 := by decide +kernel
theorem d12_44 : dc c7_ 44 (.areturn) 1 := by decide +kernel
theorem d13_0 : dc c8_ 0 (.aload_n 0) 1 := by decide +kernel
theorem d13_1 : dc c8_ 1 (.getfield 9) 3 := by decide +kernel
theorem d13_4 : dc c8_ 4 (.arraylength) 1 := by decide +kernel
theorem d13_5 : dc c8_ 5 (.aload_n 0) 1 := by decide +kernel
theorem d13_6 : dc c8_ 6 (.invokevirtual 335) 3 := by decide +kernel
theorem d13_9 : dc c8_ 9 (.ishr) 1 := by decide +kernel
theorem d13_10 : dc c8_ 10 (.ireturn) 1 := by decide +kernel
theorem d14_0 : dc c9_ 0 (.getstatic 38) 3 := by decide +kernel
theorem d14_3 : dc c9_ 3 (.ifCond .eq 10) 3 := by decide +kernel
theorem d14_6 : dc c9_ 6 (.aload_n 0) 1 := by decide +kernel
theorem d14_7 : dc c9_ 7 (.getfield 15) 3 := by decide +kernel
theorem d14_10 : dc c9_ 10 (.goto 4) 3 := by decide +kernel
theorem d14_14 : dc c9_ 14 (.ireturn) 1 := by decide +kernel
theorem d15_0 : dc c10_ 0 (.aload_n 0) 1 := by decide +kernel
theorem d15_1 : dc c10_ 1 (.getfield 15) 3 := by decide +kernel
theorem d15_4 : dc c10_ 4 (.arraylength) 1 := by decide +kernel
theorem d15_5 : dc c10_ 5 (.aload_n 0) 1 := by decide +kernel
theorem d15_6 : dc c10_ 6 (.getfield 22) 3 := by decide +kernel
theorem d15_9 : dc c10_ 9 (.ishr) 1 := by decide +kernel
theorem d15_10 : dc c10_ 10 (.istore_n 2) 1 := by decide +kernel
theorem d15_11 : dc c10_ 11 (.iload_n 1) 1 := by decide +kernel
theorem d15_12 : dc c10_ 12 (.iload_n 2) 1 := by decide +kernel
theorem d15_13 : dc c10_ 13 (.isub) 1 := by decide +kernel
theorem d15_14 : dc c10_ 14 (.ifCond .le 24) 3 := by decide +kernel
theorem d15_38 : dc c10_ 38 (.return_) 1 := by decide +kernel
theorem d16_0 : dc c11_ 0 (.aload_n 0) 1 := by decide +kernel
theorem d16_1 : dc c11_ 1 (.aload_n 2) 1 := by decide +kernel
theorem d16_2 : dc c11_ 2 (.invokevirtual 397) 3 := by decide +kernel
theorem d16_5 : dc c11_ 5 (.aload_n 2) 1 := by decide +kernel
theorem d16_6 : dc c11_ 6 (.aload_n 0) 1 := by decide +kernel
theorem d16_7 : dc c11_ 7 (.getfield 15) 3 := by decide +kernel
theorem d16_10 : dc c11_ 10 (.iload_n 1) 1 := by decide +kernel
theorem d16_11 : dc c11_ 11 (.aload_n 0) 1 := by decide +kernel
theorem d16_12 : dc c11_ 12 (.getfield 22) 3 := by decide +kernel
theorem d16_15 : dc c11_ 15 (.invokevirtual 399) 3 := by decide +kernel
theorem d16_18 : dc c11_ 18 (.return_) 1 := by decide +kernel
theorem d17_0 : dc c12_ 0 (.getstatic 18) 3 := by decide +kernel
theorem d17_3 : dc c12_ 3 (.ifCond .eq 18) 3 := by decide +kernel
theorem d17_6 : dc c12_ 6 (.aload_n 0) 1 := by decide +kernel
theorem d17_7 : dc c12_ 7 (.getfield 22) 3 := by decide +kernel
theorem d17_10 : dc c12_ 10 (.aload_n 1) 1 := by decide +kernel
theorem d17_11 : dc c12_ 11 (.invokevirtual 40) 3 := by decide +kernel
theorem d17_14 : dc c12_ 14 (.if_icmp .eq 7) 3 := by decide +kernel
theorem d17_21 : dc c12_ 21 (.return_) 1 := by decide +kernel
theorem d18_0 : dc c13_ 0 (.aload_n 0) 1 := by decide +kernel
theorem d18_1 : dc c13_ 1 (.invokevirtual 335) 3 := by decide +kernel
theorem d18_4 : dc c13_ 4 (.iload_n 3) 1 := by decide +kernel
theorem d18_5 : dc c13_ 5 (.if_icmp .ne 23) 3 := by decide +kernel
theorem d18_8 : dc c13_ 8 (.aload_n 0) 1 := by decide +kernel
theorem d18_9 : dc c13_ 9 (.getfield 9) 3 := by decide +kernel
theorem d18_12 : dc c13_ 12 (.iconst 0) 1 := by decide +kernel
theorem d18_13 : dc c13_ 13 (.aload_n 1) 1 := by decide +kernel
theorem d18_14 : dc c13_ 14 (.iload_n 2) 1 := by decide +kernel
theorem d18_15 : dc c13_ 15 (.iload_n 3) 1 := by decide +kernel
theorem d18_16 : dc c13_ 16 (.ishl) 1 := by decide +kernel
theorem d18_17 : dc c13_ 17 (.aload_n 0) 1 := by decide +kernel
theorem d18_18 : dc c13_ 18 (.getfield 9) 3 := by decide +kernel
theorem d18_21 : dc c13_ 21 (.arraylength) 1 := by decide +kernel
theorem d18_22 : dc c13_ 22 (.invokestatic 212) 3 := by decide +kernel
theorem d18_25 : dc c13_ 25 (.goto 18) 3 := by decide +kernel
theorem d18_43 : dc c13_ 43 (.return_) 1 := by decide +kernel
theorem d19_0 : dc c14_ 0 (.aload_n 0) 1 := by decide +kernel
theorem d19_1 : dc c14_ 1 (.iload_n 1) 1 := by decide +kernel
theorem d19_2 : dc c14_ 2 (.invokespecial 50) 3 := by decide +kernel
theorem d19_5 : dc c14_ 5 (.pop) 1 := by decide +kernel
theorem d19_6 : dc c14_ 6 (.aload_n 0) 1 := by decide +kernel
theorem d19_7 : dc c14_ 7 (.areturn) 1 := by decide +kernel
theorem d20_0 : dc c15_ 0 (.aload_n 0) 1 := by decide +kernel
theorem d20_1 : dc c15_ 1 (.aload_n 0) 1 := by decide +kernel
theorem d20_2 : dc c15_ 2 (.getfield 79) 3 := by decide +kernel
theorem d20_5 : dc c15_ 5 (.iconst 1) 1 := by decide +kernel
theorem d20_6 : dc c15_ 6 (.iadd) 1 := by decide +kernel
theorem d20_7 : dc c15_ 7 (.invokevirtual 100) 3 := by decide +kernel
theorem d20_10 : dc c15_ 10 (.aload_n 0) 1 := by decide +kernel
theorem d20_11 : dc c15_ 11 (.invokevirtual 83) 3 := by decide +kernel
theorem d20_14 : dc c15_ 14 (.ifCond .eq 31) 3 := by decide +kernel
theorem d20_17 : dc c15_ 17 (.iload_n 1) 1 := by decide +kernel
theorem d20_18 : dc c15_ 18 (.invokestatic 191) 3 := by decide +kernel
theorem d20_21 : dc c15_ 21 (.ifCond .eq 24) 3 := by decide +kernel
theorem d20_24 : dc c15_ 24 (.aload_n 0) 1 := by decide +kernel
theorem d20_25 : dc c15_ 25 (.getfield 15) 3 := by decide +kernel
theorem d20_28 : dc c15_ 28 (.aload_n 0) 1 := by decide +kernel
theorem d20_29 : dc c15_ 29 (.dup) 1 := by decide +kernel
theorem d20_30 : dc c15_ 30 (.getfield 79) 3 := by decide +kernel
theorem d20_33 : dc c15_ 33 (.dup_x1) 1 := by decide +kernel
theorem d20_34 : dc c15_ 34 (.iconst 1) 1 := by decide +kernel
theorem d20_35 : dc c15_ 35 (.iadd) 1 := by decide +kernel
theorem d20_36 : dc c15_ 36 (.putfield 79) 3 := by decide +kernel
theorem d20_39 : dc c15_ 39 (.iload_n 1) 1 := by decide +kernel
theorem d20_40 : dc c15_ 40 (.i2b) 1 := by decide +kernel
theorem d20_41 : dc c15_ 41 (.bastore) 1 := by decide +kernel
theorem d20_42 : dc c15_ 42 (.goto 33) 3 := by decide +kernel
theorem d20_75 : dc c15_ 75 (.aload_n 0) 1 := by decide +kernel
theorem d20_76 : dc c15_ 76 (.areturn) 1 := by decide +kernel
theorem d21_0 : dc c16_ 0 (.getstatic 18) 3 := by decide +kernel
theorem d21_3 : dc c16_ 3 (.ifCond .eq 14) 3 := by decide +kernel
theorem d21_6 : dc c16_ 6 (.aload_n 0) 1 := by decide +kernel
theorem d21_7 : dc c16_ 7 (.getfield 22) 3 := by decide +kernel
theorem d21_10 : dc c16_ 10 (.ifCond .ne 7) 3 := by decide +kernel
theorem d21_13 : dc c16_ 13 (.iconst 1) 1 := by decide +kernel
theorem d21_14 : dc c16_ 14 (.goto 4) 3 := by decide +kernel
theorem d21_18 : dc c16_ 18 (.ireturn) 1 := by decide +kernel
theorem d22_0 : dc c17_ 0 (.iload_n 0) 1 := by decide +kernel
theorem d22_1 : dc c17_ 1 (.sipush 255) 3 := by decide +kernel
theorem d22_4 : dc c17_ 4 (.if_icmp .gt 7) 3 := by decide +kernel
theorem d22_7 : dc c17_ 7 (.iconst 1) 1 := by decide +kernel
theorem d22_8 : dc c17_ 8 (.goto 4) 3 := by decide +kernel
theorem d22_12 : dc c17_ 12 (.ireturn) 1 := by decide +kernel
theorem d23_0 : dc c18_ 0 (.aload_n 0) 1 := by decide +kernel
theorem d23_1 : dc c18_ 1 (.getfield 10) 3 := by decide +kernel
theorem d23_4 : dc c18_ 4 (.invokevirtual 62) 3 := by decide +kernel
theorem d23_7 : dc c18_ 7 (.areturn) 1 := by decide +kernel
theorem d24_0 : dc c19_ 0 (.new 18) 3 := by decide +kernel
theorem d24_3 : dc c19_ 3 (.dup) 1 := by decide +kernel
theorem d24_4 : dc c19_ 4 (.aload_n 0) 1 := by decide +kernel
theorem d24_5 : dc c19_ 5 (.invokespecial 137) 3 := by decide +kernel
theorem d24_8 : dc c19_ 8 (.areturn) 1 := by decide +kernel
theorem d25_0 : dc c20_ 0 (.aload_n 0) 1 := by decide +kernel
theorem d25_1 : dc c20_ 1 (.aload_n 1) 1 := by decide +kernel
theorem d25_2 : dc c20_ 2 (.aconst_null) 1 := by decide +kernel
theorem d25_3 : dc c20_ 3 (.invokespecial 489) 3 := by decide +kernel
theorem d25_6 : dc c20_ 6 (.return_) 1 := by decide +kernel
theorem d26_0 : dc c21_ 0 (.aload_n 0) 1 := by decide +kernel
theorem d26_1 : dc c21_ 1 (.invokespecial 1) 3 := by decide +kernel
theorem d26_4 : dc c21_ 4 (.aload_n 1) 1 := by decide +kernel
theorem d26_5 : dc c21_ 5 (.invokevirtual 552) 3 := by decide +kernel
theorem d26_8 : dc c21_ 8 (.astore_n 3) 1 := by decide +kernel
theorem d26_9 : dc c21_ 9 (.aload_n 1) 1 := by decide +kernel
theorem d26_10 : dc c21_ 10 (.invokevirtual 549) 3 := by decide +kernel
theorem d26_13 : dc c21_ 13 (.istore 4) 2 := by decide +kernel
theorem d26_15 : dc c21_ 15 (.aload_n 1) 1 := by decide +kernel
theorem d26_16 : dc c21_ 16 (.invokevirtual 1047) 3 := by decide +kernel
theorem d26_19 : dc c21_ 19 (.ifCond .eq 22) 3 := by decide +kernel
theorem d26_22 : dc c21_ 22 (.aload_n 0) 1 := by decide +kernel
theorem d26_23 : dc c21_ 23 (.iconst 0) 1 := by decide +kernel
theorem d26_24 : dc c21_ 24 (.putfield 15) 3 := by decide +kernel
theorem d26_27 : dc c21_ 27 (.aload_n 0) 1 := by decide +kernel
theorem d26_28 : dc c21_ 28 (.aload_n 3) 1 := by decide +kernel
theorem d26_29 : dc c21_ 29 (.iconst 0) 1 := by decide +kernel
theorem d26_30 : dc c21_ 30 (.iload 4) 2 := by decide +kernel
theorem d26_32 : dc c21_ 32 (.invokestatic 54) 3 := by decide +kernel
theorem d26_35 : dc c21_ 35 (.putfield 9) 3 := by decide +kernel
theorem d26_38 : dc c21_ 38 (.goto 59) 3 := by decide +kernel
theorem d26_97 : dc c21_ 97 (.return_) 1 := by decide +kernel
theorem d27_0 : dc c22_ 0 (.aload_n 0) 1 := by decide +kernel
theorem d27_1 : dc c22_ 1 (.getfield 15) 3 := by decide +kernel
theorem d27_4 : dc c22_ 4 (.areturn) 1 := by decide +kernel
theorem d28_0 : dc c23_ 0 (.aload_n 0) 1 := by decide +kernel
theorem d28_1 : dc c23_ 1 (.invokespecial 343) 3 := by decide +kernel
theorem d28_4 : dc c23_ 4 (.ireturn) 1 := by decide +kernel
theorem d29_0 : dc c24_ 0 (.aload_n 0) 1 := by decide +kernel
theorem d29_1 : dc c24_ 1 (.getfield 79) 3 := by decide +kernel
theorem d29_4 : dc c24_ 4 (.ireturn) 1 := by decide +kernel
theorem d30_0 : dc c25_ 0 (.iload_n 1) 1 := by decide +kernel
theorem d30_1 : dc c25_ 1 (.ifCond .ne 9) 3 := by decide +kernel
theorem d30_4 : dc c25_ 4 (.iload_n 2) 1 := by decide +kernel
theorem d30_5 : dc c25_ 5 (.aload_n 0) 1 := by decide +kernel
theorem d30_6 : dc c25_ 6 (.arraylength) 1 := by decide +kernel
theorem d30_7 : dc c25_ 7 (.if_icmp .eq 10) 3 := by decide +kernel
theorem d30_10 : dc c25_ 10 (.aload_n 0) 1 := by decide +kernel
theorem d30_11 : dc c25_ 11 (.iload_n 1) 1 := by decide +kernel
theorem d30_12 : dc c25_ 12 (.iload_n 2) 1 := by decide +kernel
theorem d30_13 : dc c25_ 13 (.invokestatic 339) 3 := by decide +kernel
theorem d30_16 : dc c25_ 16 (.areturn) 1 := by decide +kernel
theorem d31_0 : dc c26_ 0 (.iload_n 1) 1 := by decide +kernel
theorem d31_1 : dc c26_ 1 (.iload_n 2) 1 := by decide +kernel
theorem d31_2 : dc c26_ 2 (.invokestatic 343) 3 := by decide +kernel
theorem d31_5 : dc c26_ 5 (.iload_n 2) 1 := by decide +kernel
theorem d31_6 : dc c26_ 6 (.iload_n 1) 1 := by decide +kernel
theorem d31_7 : dc c26_ 7 (.isub) 1 := by decide +kernel
theorem d31_8 : dc c26_ 8 (.istore_n 3) 1 := by decide +kernel
theorem d31_9 : dc c26_ 9 (.iload_n 3) 1 := by decide +kernel
theorem d31_10 : dc c26_ 10 (.newarray .byte) 2 := by decide +kernel
theorem d31_12 : dc c26_ 12 (.astore 4) 2 := by decide +kernel
theorem d31_14 : dc c26_ 14 (.aload_n 0) 1 := by decide +kernel
theorem d31_15 : dc c26_ 15 (.iload_n 1) 1 := by decide +kernel
theorem d31_16 : dc c26_ 16 (.aload 4) 2 := by decide +kernel
theorem d31_18 : dc c26_ 18 (.iconst 0) 1 := by decide +kernel
theorem d31_19 : dc c26_ 19 (.aload_n 0) 1 := by decide +kernel
theorem d31_20 : dc c26_ 20 (.arraylength) 1 := by decide +kernel
theorem d31_21 : dc c26_ 21 (.iload_n 1) 1 := by decide +kernel
theorem d31_22 : dc c26_ 22 (.isub) 1 := by decide +kernel
theorem d31_23 : dc c26_ 23 (.iload_n 3) 1 := by decide +kernel
theorem d31_24 : dc c26_ 24 (.invokestatic 304) 3 := by decide +kernel
theorem d31_27 : dc c26_ 27 (.invokestatic 150) 3 := by decide +kernel
theorem d31_30 : dc c26_ 30 (.aload 4) 2 := by decide +kernel
theorem d31_32 : dc c26_ 32 (.areturn) 1 := by decide +kernel
theorem d32_0 : dc c27_ 0 (.iload_n 1) 1 := by decide +kernel
theorem d32_1 : dc c27_ 1 (.iload_n 0) 1 := by decide +kernel
theorem d32_2 : dc c27_ 2 (.if_icmp .ge 35) 3 := by decide +kernel
theorem d32_37 : dc c27_ 37 (.return_) 1 := by decide +kernel
theorem d33_0 : dc c28_ 0 (.iload_n 0) 1 := by decide +kernel
theorem d33_1 : dc c28_ 1 (.iload_n 1) 1 := by decide +kernel
theorem d33_2 : dc c28_ 2 (.if_icmp .gt 7) 3 := by decide +kernel
theorem d33_9 : dc c28_ 9 (.iload_n 1) 1 := by decide +kernel
theorem d33_10 : dc c28_ 10 (.ireturn) 1 := by decide +kernel
theorem d34_0 : dc c29_ 0 (.aload_n 0) 1 := by decide +kernel
theorem d34_1 : dc c29_ 1 (.aload_n 1) 1 := by decide +kernel
theorem d34_2 : dc c29_ 2 (.if_acmp .ne 5) 3 := by decide +kernel
theorem d34_7 : dc c29_ 7 (.aload_n 1) 1 := by decide +kernel
theorem d34_8 : dc c29_ 8 (.instanceof 10) 3 := by decide +kernel
theorem d34_11 : dc c29_ 11 (.ifCond .eq 43) 3 := by decide +kernel
theorem d34_14 : dc c29_ 14 (.aload_n 1) 1 := by decide +kernel
theorem d34_15 : dc c29_ 15 (.checkcast 10) 3 := by decide +kernel
theorem d34_18 : dc c29_ 18 (.astore_n 2) 1 := by decide +kernel
theorem d34_19 : dc c29_ 19 (.getstatic 38) 3 := by decide +kernel
theorem d34_22 : dc c29_ 22 (.ifCond .eq 14) 3 := by decide +kernel
theorem d34_25 : dc c29_ 25 (.aload_n 0) 1 := by decide +kernel
theorem d34_26 : dc c29_ 26 (.getfield 15) 3 := by decide +kernel
theorem d34_29 : dc c29_ 29 (.aload_n 2) 1 := by decide +kernel
theorem d34_30 : dc c29_ 30 (.getfield 15) 3 := by decide +kernel
theorem d34_33 : dc c29_ 33 (.if_icmp .ne 21) 3 := by decide +kernel
theorem d34_36 : dc c29_ 36 (.aload_n 0) 1 := by decide +kernel
theorem d34_37 : dc c29_ 37 (.getfield 9) 3 := by decide +kernel
theorem d34_40 : dc c29_ 40 (.aload_n 2) 1 := by decide +kernel
theorem d34_41 : dc c29_ 41 (.getfield 9) 3 := by decide +kernel
theorem d34_44 : dc c29_ 44 (.invokestatic 541) 3 := by decide +kernel
theorem d34_47 : dc c29_ 47 (.ifCond .eq 7) 3 := by decide +kernel
theorem d34_50 : dc c29_ 50 (.iconst 1) 1 := by decide +kernel
theorem d34_51 : dc c29_ 51 (.goto 4) 3 := by decide +kernel
theorem d34_55 : dc c29_ 55 (.ireturn) 1 := by decide +kernel
theorem d35_0 : dc c30_ 0 (.aload_n 0) 1 := by decide +kernel
theorem d35_1 : dc c30_ 1 (.arraylength) 1 := by decide +kernel
theorem d35_2 : dc c30_ 2 (.aload_n 1) 1 := by decide +kernel
theorem d35_3 : dc c30_ 3 (.arraylength) 1 := by decide +kernel
theorem d35_4 : dc c30_ 4 (.if_icmp .ne 30) 3 := by decide +kernel
theorem d35_7 : dc c30_ 7 (.iconst 0) 1 := by decide +kernel
theorem d35_8 : dc c30_ 8 (.istore_n 2) 1 := by decide +kernel
theorem d35_9 : dc c30_ 9 (.iload_n 2) 1 := by decide +kernel
theorem d35_10 : dc c30_ 10 (.aload_n 0) 1 := by decide +kernel
theorem d35_11 : dc c30_ 11 (.arraylength) 1 := by decide +kernel
theorem d35_12 : dc c30_ 12 (.if_icmp .ge 20) 3 := by decide +kernel
theorem d35_15 : dc c30_ 15 (.aload_n 0) 1 := by decide +kernel
theorem d35_16 : dc c30_ 16 (.iload_n 2) 1 := by decide +kernel
theorem d35_17 : dc c30_ 17 (.baload) 1 := by decide +kernel
theorem d35_18 : dc c30_ 18 (.aload_n 1) 1 := by decide +kernel
theorem d35_19 : dc c30_ 19 (.iload_n 2) 1 := by decide +kernel
theorem d35_20 : dc c30_ 20 (.baload) 1 := by decide +kernel
theorem d35_21 : dc c30_ 21 (.if_icmp .eq 5) 3 := by decide +kernel
theorem d35_26 : dc c30_ 26 (.iinc 2 1) 3 := by decide +kernel
theorem d35_29 : dc c30_ 29 (.goto (-20)) 3 := by decide +kernel
theorem d35_32 : dc c30_ 32 (.iconst 1) 1 := by decide +kernel
theorem d35_33 : dc c30_ 33 (.ireturn) 1 := by decide +kernel
theorem d36_0 : dc c31_ 0 (.getstatic 38) 3 := by decide +kernel
theorem d36_3 : dc c31_ 3 (.ifCond .eq 23) 3 := by decide +kernel
theorem d36_6 : dc c31_ 6 (.iload_n 0) 1 := by decide +kernel
theorem d36_7 : dc c31_ 7 (.invokestatic 1015) 3 := by decide +kernel
theorem d36_10 : dc c31_ 10 (.ifCond .eq 16) 3 := by decide +kernel
theorem d36_13 : dc c31_ 13 (.new 10) 3 := by decide +kernel
theorem d36_16 : dc c31_ 16 (.dup) 1 := by decide +kernel
theorem d36_17 : dc c31_ 17 (.iload_n 0) 1 := by decide +kernel
theorem d36_18 : dc c31_ 18 (.invokestatic 1018) 3 := by decide +kernel
theorem d36_21 : dc c31_ 21 (.iconst 0) 1 := by decide +kernel
theorem d36_22 : dc c31_ 22 (.invokespecial 209) 3 := by decide +kernel
theorem d36_25 : dc c31_ 25 (.areturn) 1 := by decide +kernel
theorem d37_0 : dc c32_ 0 (.iconst 1) 1 := by decide +kernel
theorem d37_1 : dc c32_ 1 (.newarray .byte) 2 := by decide +kernel
theorem d37_3 : dc c32_ 3 (.dup) 1 := by decide +kernel
theorem d37_4 : dc c32_ 4 (.iconst 0) 1 := by decide +kernel
theorem d37_5 : dc c32_ 5 (.iload_n 0) 1 := by decide +kernel
theorem d37_6 : dc c32_ 6 (.i2b) 1 := by decide +kernel
theorem d37_7 : dc c32_ 7 (.bastore) 1 := by decide +kernel
theorem d37_8 : dc c32_ 8 (.areturn) 1 := by decide +kernel
theorem d38_0 : dc c33_ 0 (.aload_n 0) 1 := by decide +kernel
theorem d38_1 : dc c33_ 1 (.invokespecial 1) 3 := by decide +kernel
theorem d38_4 : dc c33_ 4 (.aload_n 0) 1 := by decide +kernel
theorem d38_5 : dc c33_ 5 (.aload_n 1) 1 := by decide +kernel
theorem d38_6 : dc c33_ 6 (.putfield 9) 3 := by decide +kernel
theorem d38_9 : dc c33_ 9 (.aload_n 0) 1 := by decide +kernel
theorem d38_10 : dc c33_ 10 (.iload_n 2) 1 := by decide +kernel
theorem d38_11 : dc c33_ 11 (.putfield 15) 3 := by decide +kernel
theorem d38_14 : dc c33_ 14 (.return_) 1 := by decide +kernel
theorem d39_0 : dc c34_ 0 (.aload_n 2) 1 := by decide +kernel
theorem d39_1 : dc c34_ 1 (.arraylength) 1 := by decide +kernel
theorem d39_2 : dc c34_ 2 (.iconst 2) 1 := by decide +kernel
theorem d39_3 : dc c34_ 3 (.irem) 1 := by decide +kernel
theorem d39_4 : dc c34_ 4 (.ifCond .eq 13) 3 := by decide +kernel
theorem d39_17 : dc c34_ 17 (.aload_n 0) 1 := by decide +kernel
theorem d39_18 : dc c34_ 18 (.getfield 10) 3 := by decide +kernel
theorem d39_21 : dc c34_ 21 (.bipush 60) 2 := by decide +kernel
theorem d39_23 : dc c34_ 23 (.invokevirtual 23) 3 := by decide +kernel
theorem d39_26 : dc c34_ 26 (.aload_n 1) 1 := by decide +kernel
theorem d39_27 : dc c34_ 27 (.invokevirtual 27) 3 := by decide +kernel
theorem d39_30 : dc c34_ 30 (.pop) 1 := by decide +kernel
theorem d39_31 : dc c34_ 31 (.iconst 0) 1 := by decide +kernel
theorem d39_32 : dc c34_ 32 (.istore_n 3) 1 := by decide +kernel
theorem d39_33 : dc c34_ 33 (.iload_n 3) 1 := by decide +kernel
theorem d39_34 : dc c34_ 34 (.aload_n 2) 1 := by decide +kernel
theorem d39_35 : dc c34_ 35 (.arraylength) 1 := by decide +kernel
theorem d39_36 : dc c34_ 36 (.if_icmp .ge 46) 3 := by decide +kernel
theorem d39_82 : dc c34_ 82 (.aload_n 0) 1 := by decide +kernel
theorem d39_83 : dc c34_ 83 (.getfield 10) 3 := by decide +kernel
theorem d39_86 : dc c34_ 86 (.bipush 62) 2 := by decide +kernel
theorem d39_88 : dc c34_ 88 (.invokevirtual 23) 3 := by decide +kernel
theorem d39_91 : dc c34_ 91 (.pop) 1 := by decide +kernel
theorem d39_92 : dc c34_ 92 (.aload_n 0) 1 := by decide +kernel
theorem d39_93 : dc c34_ 93 (.areturn) 1 := by decide +kernel
theorem pd0 : parseMethodDescriptor "([CIILjava/lang/Void;)V" = some ⟨[(.array .char), .int, .int, (.object "java/lang/Void")], none⟩ := by decide +kernel
theorem pd1 : parseMethodDescriptor "([C)V" = some ⟨[(.array .char)], none⟩ := by decide +kernel
theorem pd2 : parseMethodDescriptor "(I)V" = some ⟨[.int], none⟩ := by decide +kernel
theorem pd3 : parseMethodDescriptor "()V" = some ⟨[], none⟩ := by decide +kernel
theorem pd4 : parseMethodDescriptor "()B" = some ⟨[], some .byte⟩ := by decide +kernel
theorem pd5 : parseMethodDescriptor "()I" = some ⟨[], some .int⟩ := by decide +kernel
theorem pd6 : parseMethodDescriptor "(Ljava/lang/String;)V" = some ⟨[(.object "java/lang/String")], none⟩ := by decide +kernel
theorem pd7 : parseMethodDescriptor "([BIB)V" = some ⟨[(.array .byte), .int, .byte], none⟩ := by decide +kernel
theorem pd8 : parseMethodDescriptor "(ILjava/lang/String;)V" = some ⟨[.int, (.object "java/lang/String")], none⟩ := by decide +kernel
theorem pd9 : parseMethodDescriptor "(Ljava/lang/String;)Ljava/lang/AbstractStringBuilder;" = some ⟨[(.object "java/lang/String")], some (.object "java/lang/AbstractStringBuilder")⟩ := by decide +kernel
theorem pd10 : parseMethodDescriptor "(Ljava/lang/String;)Ljava/lang/StringBuilder;" = some ⟨[(.object "java/lang/String")], some (.object "java/lang/StringBuilder")⟩ := by decide +kernel
theorem pd11 : parseMethodDescriptor "()Z" = some ⟨[], some .boolean⟩ := by decide +kernel
theorem pd12 : parseMethodDescriptor "(C)Z" = some ⟨[.char], some .boolean⟩ := by decide +kernel
theorem pd13 : parseMethodDescriptor "(C)Ljava/lang/AbstractStringBuilder;" = some ⟨[.char], some (.object "java/lang/AbstractStringBuilder")⟩ := by decide +kernel
theorem pd14 : parseMethodDescriptor "(C)Ljava/lang/StringBuilder;" = some ⟨[.char], some (.object "java/lang/StringBuilder")⟩ := by decide +kernel
theorem pd15 : parseMethodDescriptor "(Ljava/lang/String;)Lcom/example/colophon/colophon/api/Html;" = some ⟨[(.object "java/lang/String")], some (.object "com/example/colophon/colophon/api/Html")⟩ := by decide +kernel
theorem pd16 : parseMethodDescriptor "()[B" = some ⟨[], some (.array .byte)⟩ := by decide +kernel
theorem pd17 : parseMethodDescriptor "(II)V" = some ⟨[.int, .int], none⟩ := by decide +kernel
theorem pd18 : parseMethodDescriptor "(II)I" = some ⟨[.int, .int], some .int⟩ := by decide +kernel
theorem pd19 : parseMethodDescriptor "([BII)[B" = some ⟨[(.array .byte), .int, .int], some (.array .byte)⟩ := by decide +kernel
theorem pd20 : parseMethodDescriptor "(Ljava/lang/AbstractStringBuilder;Ljava/lang/Void;)V" = some ⟨[(.object "java/lang/AbstractStringBuilder"), (.object "java/lang/Void")], none⟩ := by decide +kernel
theorem pd21 : parseMethodDescriptor "(Ljava/lang/StringBuilder;)V" = some ⟨[(.object "java/lang/StringBuilder")], none⟩ := by decide +kernel
theorem pd22 : parseMethodDescriptor "()Ljava/lang/String;" = some ⟨[], some (.object "java/lang/String")⟩ := by decide +kernel
theorem pd23 : parseMethodDescriptor "([B[B)Z" = some ⟨[(.array .byte), (.array .byte)], some .boolean⟩ := by decide +kernel
theorem pd24 : parseMethodDescriptor "(Ljava/lang/Object;)Z" = some ⟨[(.object "java/lang/Object")], some .boolean⟩ := by decide +kernel
theorem pd25 : parseMethodDescriptor "(C)[B" = some ⟨[.char], some (.array .byte)⟩ := by decide +kernel
theorem pd26 : parseMethodDescriptor "([BB)V" = some ⟨[(.array .byte), .byte], none⟩ := by decide +kernel
theorem pd27 : parseMethodDescriptor "(C)Ljava/lang/String;" = some ⟨[.char], some (.object "java/lang/String")⟩ := by decide +kernel
theorem pd28 : parseMethodDescriptor "(Ljava/lang/String;[Ljava/lang/String;)Lcom/example/colophon/colophon/api/Html;" = some ⟨[(.object "java/lang/String"), (.array (.object "java/lang/String"))], some (.object "com/example/colophon/colophon/api/Html")⟩ := by decide +kernel
theorem pn0 : plainName "java/lang/String" = true := by first | (simp [plainName, overriddenIn]; done) | decide +kernel
theorem pn1 : plainName "java/lang/AbstractStringBuilder" = true := by first | (simp [plainName, overriddenIn]; done) | decide +kernel
theorem pn2 : plainName "java/lang/StringBuilder" = true := by first | (simp [plainName, overriddenIn]; done) | decide +kernel
theorem pn3 : plainName "com/example/colophon/colophon/api/Html" = true := by first | (simp [plainName, overriddenIn]; done) | decide +kernel
theorem pn4 : plainName "java/lang/StringLatin1" = true := by first | (simp [plainName, overriddenIn]; done) | decide +kernel
theorem pn5 : plainName "java/util/Arrays" = true := by first | (simp [plainName, overriddenIn]; done) | decide +kernel
theorem pn6 : plainName "com/example/colophon/colophon/api/HtmlClosePinLaw" = true := by first | (simp [plainName, overriddenIn]; done) | decide +kernel
theorem rm1 (l : Launch) {Z a0} (hw : HW Z a0) (a1 a2 : Addr) (h0 : Heap) (O0 : Old Z Z.heap.size h0) (z0 : Exa Z h0 a1 s0) (z1 : Fld Z h0 a1 s0 "value" "[B" .null) (z2 : Z.heap.size ≤ a1) (z3 : Fld Z h0 a1 s0 "coder" "B" iZ) :
    CtrW l Z consts_1 mn0 jdk_42_method_149_code 6 none [] (⟨1, 4, 8, 12⟩ : Room) #[(.ref a1), (.ref a2), iZ, iZ, .null] h0 [a1] (fun v h => ∃ r1 : Addr, ∃ r2 : ClassId, Fld Z h a1 s0 "value" "[B" (.ref r1) ∧ Fld Z h a1 s0 "coder" "B" iZ ∧ Arv Z h r1 r2 .byte 0 [] iZ ∧ v = none) := by
  refine CtrW.intro (L0 := #[vr a1, vr a2, vi 0, vi 0, .val .null, un]) (plainFor_of_name pn0) O0 (own_entry rfl) ?_
  intro p e s m below meth c T0 V0 hy hml hret hlk hnm W0
  refine o_aloadN W0 1 (hb hy d2_0) rfl rfl rfl ?_
  refine o_initO W0 (w11 hw) (w12 hw) (w13 hw) (by rw [hml]; rfl) 4 (hb hy d2_1) rfl (by decide) 0 (by exact Nat.le_of_eq rfl) (by decide) ?_
  intro T1 W1
  refine o_iloadN W1 5 (hb hy d2_4) rfl rfl <| o_ifN W1 8 (hb hy d2_5) (XT.i0_ne_f (by decide)) rfl <| o_aloadN W1 9 (hb hy d2_8) rfl rfl rfl ?_
  refine o_ldcR W1 (w14 hw) (own_wS hw) (own_EL hw) (by simp [consts_1]) 11 (hb hy d2_9) rfl (n := 0) (by decide) (by decide) (cells' := 2) (slots' := 4) rfl rfl (by decide) (by decide) (vs := []) (z := (0 : Int32)) ⟨by decide, by decide⟩ (by decide) (by decide) ?_
  intro s2 T2 h2 V2 t2 k2 W2 E2 C2 X2 Fc2 Fv2 A2 ns2
  refine o_getF W2 (w20 hw) Via.refl Fv2 14 (hb hy d2_11) rfl ?_
  intro T3 W3
  have c4 := (z0.ext E2)
  have c5 := (z1.ext E2)
  have sf6 := own_safeS (EL := consts_1) W3.al c4 c5
  refine o_putF W3 (w20 hw) Via.refl c5 c4 (Or.inr ⟨(w16 hw), rfl, hnm⟩) (w2 hw) (ty := (.array .byte)) (v' := (.ref t2)) (by decide) rfl rfl z2 m0 (fun _ R => IW.wr R sf6 W3.inv) 17 (hb hy d2_14) rfl ?_
  intro T7 h7 lo7 W7 R7
  have F7 := c5.same R7
  refine o_aloadN W7 18 (hb hy d2_17) rfl rfl rfl ?_
  refine o_ldcR W7 (w14 hw) (own_wS hw) (own_EL hw) (by simp [consts_1]) 20 (hb hy d2_18) rfl (n := 0) (by decide) (by decide) (cells' := 4) (slots' := 8) rfl rfl (by decide) (by decide) (vs := []) (z := (0 : Int32)) ⟨by decide, by decide⟩ (by decide) (by decide) ?_
  intro s8 T8 h8 V8 t8 k8 W8 E8 C8 X8 Fc8 Fv8 A8 ns8
  refine o_getF W8 (w21 hw) Via.refl Fc8 23 (hb hy d2_20) rfl ?_
  intro T9 W9
  have c10 := ((c4.wr R7).ext E8)
  have c11 := (((z3.ext E2).other R7 (Or.inr (slot_ne (Or.inr (w17 hw)) (Or.inr (w16 hw)) (by decide) (t := .byte) (t' := (.array .byte)) (by decide) (by decide)))).ext E8)
  have c12 := (c4.wr R7)
  have c13 := (CHr.safe C8 c12.lt (Safe.wr R7 sf6 W3.inv.2.1 sf6))
  refine o_putF W9 (w21 hw) Via.refl c11 c10 (Or.inr ⟨(w17 hw), rfl, hnm⟩) (w2 hw) (ty := .byte) (v' := iZ) (by decide) rfl (by decide) z2 m0 (fun _ R => IW.wr R c13 W9.inv) 26 (hb hy d2_23) rfl ?_
  intro T14 h14 lo14 W14 R14
  have F14 := c11.same R14
  have c15 := ((F7.ext E8).other R14 (Or.inr (slot_ne (Or.inr (w16 hw)) (Or.inr (w17 hw)) (by decide) (t := (.array .byte)) (t' := .byte) (by decide) (by decide))))
  have c16 := (c10.wr R14)
  have c17 := (((A2.other R7 (Ne.symm (ns2 _ sf6).2)).ext E8).other R14 (Ne.symm (ns2 _ sf6).2))
  exact o_ret0W W14 (own_EL hw) hlk hret (hb hy d2_26) (by decide) (by decide) ⟨t2, k2, c15, F14, c17, rfl⟩
theorem rm2 (l : Launch) {Z a0} (hw : HW Z a0) (a1 a2 : Addr) (z0 : ClassId) (h0 : Heap) (O0 : Old Z Z.heap.size h0) (z1 : Arv Z h0 a2 z0 .char 0 [] iZ) (z2 : Exa Z h0 a1 s0) (z3 : Fld Z h0 a1 s0 "value" "[B" .null) (z4 : Fld Z h0 a1 s0 "coder" "B" iZ) (z5 : Z.heap.size ≤ a1) :
    CtrW l Z consts_1 mn1 jdk_42_method_3_code 2 none [] (⟨2, 4, 8, 29⟩ : Room) #[(.ref a1), (.ref a2)] h0 [a1] (fun v h => ∃ r1 : Addr, ∃ r2 : ClassId, Fld Z h a1 s0 "value" "[B" (.ref r1) ∧ Fld Z h a1 s0 "coder" "B" iZ ∧ Arv Z h r1 r2 .byte 0 [] iZ ∧ v = none) := by
  refine CtrW.intro (L0 := #[vr a1, vr a2]) (plainFor_of_name pn0) O0 (own_entry rfl) ?_
  intro p e s m below meth c T0 V0 hy hml hret hlk hnm W0
  refine o_aloadN W0 1 (hb hy d1_0) rfl rfl rfl <| o_aloadN W0 2 (hb hy d1_1) rfl rfl rfl <| o_iconst W0 (v := 0) 3 (hb hy d1_2) rfl rfl <| o_aloadN W0 4 (hb hy d1_3) rfl rfl rfl <| o_len W0 z1 5 (hb hy d1_4) rfl ?_
  refine o_aconstNull W0 6 (hb hy d1_5) rfl ?_
  refine o_specialW W0 (y := mn0) rfl (w7 hw) (w8 hw) (w10 hw) (by decide) (a := a1) (argsL := [(.ref a2), iZ, iZ, .null]) (CtrW.back (Wd := 0) W0 (rm1 l hw a1 a2 h0 W0.old z2 z3 z5 z4) (w10 hw) (w3 hw) (by decide) (by decide) (own_EL hw)) (by rw [hml]; rfl) (lenOf pd0 rfl) (S := []) rfl (by exact Nat.le_of_eq rfl) 9 (hb hy d1_6) rfl (cells' := 4) (slots' := 8) rfl rfl (by decide) (by decide) (wy := [a1]) qf (allS ⟨z5, m0⟩ all0)  ?_
  intro v1 T1 h1 V1 lo1 W1 K1 C1 q1
  obtain ⟨r1_1, r2_1, P1_0, P1_1, P1_2, rfl⟩ := q1.2.2
  show Gl _ _ _ _ _ _ _ _ []
  have c2 := (z2.keep K1)
  exact o_ret0W W1 (own_EL hw) hlk hret (hb hy d1_9) (by decide) (by decide) ⟨r1_1, r2_1, P1_0, P1_1, P1_2, rfl⟩
theorem rm3 (l : Launch) {Z a0} (hw : HW Z a0) (gCS : Int32) (a1 : Addr) (h0 : Heap) (O0 : Old Z Z.heap.size h0) (SgCS : Sta Z Z.heap s0 s3 "Z" (.int gCS)) (NgCS : ¬ (gCS = (0 : Int32))) (z0 : Exa Z h0 a1 s2) (z1 : Fld Z h0 a1 s1 "value" "[B" .null) (z2 : Z.heap.size ≤ a1) (z3 : Fld Z h0 a1 s1 "coder" "B" iZ) (z4 : Fld Z h0 a1 s1 "count" "I" iZ) :
    CtrN l Z mn2 jdk_68_method_2_code 2 none [] (⟨1, 1, 16, 12⟩ : Room) #[(.ref a1), (.int 16)] h0 [a1] (fun v h => ∃ r1 : Addr, ∃ r2 : ClassId, h0.size ≤ r1 ∧ Fld Z h a1 s1 "value" "[B" (.ref r1) ∧ Fld Z h a1 s1 "coder" "B" iZ ∧ Fld Z h a1 s1 "count" "I" iZ ∧ Arv Z h r1 r2 .byte 16 [iZ, iZ, iZ, iZ, iZ, iZ, iZ, iZ, iZ, iZ, iZ, iZ, iZ, iZ, iZ, iZ] iZ ∧ v = none) := by
  refine CtrN.intro (L0 := #[vr a1, vi 16]) (plainFor_of_name pn1) O0 (own_entry rfl) ?_
  intro p e s m below meth c T0 hy hml hret hlk hnm W0
  refine o_aloadN W0 1 (hb hy d9_0) rfl rfl rfl ?_
  refine o_initO W0 (w53 hw) (w12 hw) (w13 hw) (by rw [hml]; rfl) 4 (hb hy d9_1) rfl (by decide) 0 (by exact Nat.le_of_eq rfl) (by decide) ?_
  intro T1 W1
  refine o_getS W1 (w54 hw) Via.refl (SgCS.ext W1.ox) 7 (hb hy d9_4) rfl ?_
  intro T2 W2
  refine o_ifN W2 10 (hb hy d9_7) (XT.i0_eq_f NgCS) rfl <| o_aloadN W2 11 (hb hy d9_10) rfl rfl rfl <| o_iloadN W2 12 (hb hy d9_11) rfl rfl ?_
  refine o_newP W2 (aty := .byte) (w15 hw) tri (by decide) (cap := 16) (by decide) (by decide) 14 (hb hy d9_12) rfl (cells' := 1) (slots' := 16) rfl rfl (by decide) (by decide) (vs := [iZ, iZ, iZ, iZ, iZ, iZ, iZ, iZ, iZ, iZ, iZ, iZ, iZ, iZ, iZ, iZ]) (dv := iZ) rfl rfl ?_
  intro b3 T3 h3 k3 W3 E3 ge3 gz3 gb3 V3
  have c4 := (z0.ext E3)
  have c5 := (z1.ext E3)
  refine o_putF W3 (w55 hw) Via.refl c5 c4 (Or.inl (w56 hw)) (w42 hw) (ty := (.array .byte)) (v' := (.ref b3)) (by decide) rfl rfl z2 m0 tri 17 (hb hy d9_14) rfl ?_
  intro T6 h6 lo6 W6 R6
  have F6 := c5.same R6
  refine o_aloadN W6 18 (hb hy d9_17) rfl rfl rfl <| o_iconst W6 (v := 0) 19 (hb hy d9_18) rfl rfl ?_
  have c7 := (c4.wr R6)
  have c8 := ((z3.ext E3).other R6 (Or.inr (slot_ne (Or.inl (w58 hw)) (Or.inl (w56 hw)) (by decide) (t := .byte) (t' := (.array .byte)) (by decide) (by decide))))
  refine o_putF W6 (w57 hw) Via.refl c8 c7 (Or.inl (w58 hw)) (w42 hw) (ty := .byte) (v' := iZ) (by decide) rfl (by decide) z2 m0 tri 22 (hb hy d9_19) rfl ?_
  intro T9 h9 lo9 W9 R9
  have F9 := c8.same R9
  refine o_goto W9 38 (hb hy d9_22) (by decide) rfl ?_
  have c10 := (F6.other R9 (Or.inr (slot_ne (Or.inl (w56 hw)) (Or.inl (w58 hw)) (by decide) (t := (.array .byte)) (t' := .byte) (by decide) (by decide))))
  have c11 := (((z4.ext E3).other R6 (Or.inr (slot_ne (Or.inl (w88 hw)) (Or.inl (w56 hw)) (by decide) (t := .int) (t' := (.array .byte)) (by decide) (by decide)))).other R9 (Or.inr (slot_ne (Or.inl (w88 hw)) (Or.inl (w58 hw)) (by decide) (t := .int) (t' := .byte) (by decide) (by decide))))
  have c12 := (c7.wr R9)
  have c13 := ((V3.other R6 (own_ne' z0.lt ge3)).other R9 (own_ne' z0.lt ge3))
  exact o_ret0 W9 hlk hret (hb hy d9_38) (by decide) (by decide) ⟨b3, k3, gb3, c10, F9, c11, c13, rfl⟩
theorem rm4 (l : Launch) {Z a0} (hw : HW Z a0) (gCS : Int32) (a1 : Addr) (h0 : Heap) (O0 : Old Z Z.heap.size h0) (SgCS : Sta Z Z.heap s0 s3 "Z" (.int gCS)) (NgCS : ¬ (gCS = (0 : Int32))) (z0 : Exa Z h0 a1 s2) (z1 : Fld Z h0 a1 s1 "value" "[B" .null) (z2 : Fld Z h0 a1 s1 "coder" "B" iZ) (z3 : Fld Z h0 a1 s1 "count" "I" iZ) (z4 : Z.heap.size ≤ a1) :
    CtrN l Z mn3 jdk_67_method_1_code 1 none [] (⟨2, 1, 16, 25⟩ : Room) #[(.ref a1)] h0 [a1] (fun v h => ∃ r1 : Addr, ∃ r2 : ClassId, h0.size ≤ r1 ∧ Fld Z h a1 s1 "value" "[B" (.ref r1) ∧ Fld Z h a1 s1 "coder" "B" iZ ∧ Fld Z h a1 s1 "count" "I" iZ ∧ Arv Z h r1 r2 .byte 16 [iZ, iZ, iZ, iZ, iZ, iZ, iZ, iZ, iZ, iZ, iZ, iZ, iZ, iZ, iZ, iZ] iZ ∧ v = none) := by
  refine CtrN.intro (L0 := #[vr a1]) (plainFor_of_name pn2) O0 (own_entry rfl) ?_
  intro p e s m below meth c T0 hy hml hret hlk hnm W0
  refine o_aloadN W0 1 (hb hy d8_0) rfl rfl rfl <| o_bipush W0 (v := 16) 3 (hb hy d8_1) (by decide) rfl ?_
  refine o_specialC W0 rfl (w47 hw) (w48 hw) (w52 hw) (by decide) (w51 hw) (rm3 l hw gCS a1 h0 W0.old SgCS NgCS z0 z1 z4 z2 z3) 0 1 16 (by decide) (by rw [hml]; rfl) (lenOf pd2 rfl) [] rfl rfl 6 (hb hy d8_3) rfl rfl rfl (allS ⟨z4, m0⟩ all0) tri ?_
  intro v1 T1 h1 lo1 W1 K1 q1
  obtain ⟨r1_1, r2_1, P1_0, P1_1, P1_2, P1_3, P1_4, rfl⟩ := q1.2.2
  show Gl _ _ _ _ _ _ _ _ []
  have c2 := (z0.keep K1)
  exact o_ret0 W1 hlk hret (hb hy d8_6) (by decide) (by decide) ⟨r1_1, r2_1, (Nat.le_trans W0.keep.1 P1_0), P1_1, P1_2, P1_3, P1_4, rfl⟩
theorem rm5 (l : Launch) {Z a0} (hw : HW Z a0) (gCS : Int32) (a1 : Addr) (h0 : Heap) (O0 : Old Z Z.heap.size h0) (SgCS : Sta Z Z.heap s0 s3 "Z" (.int gCS)) (NgCS : ¬ (gCS = (0 : Int32))) (z0 : Exa Z h0 a1 s4) (z1 : Fld Z h0 a1 s4 "out" s5 .null) (z2 : Z.heap.size ≤ a1) :
    CtrN l Z mn4 prog_5_method_1_code 1 none [] (⟨3, 2, 20, 39⟩ : Room) #[(.ref a1)] h0 [a1] (fun v h => ∃ r1 : Addr, ∃ r2 : Addr, ∃ r3 : ClassId, h0.size ≤ r1 ∧ h0.size ≤ r2 ∧ Fld Z h a1 s4 "out" s5 (.ref r1) ∧ Exa Z h r1 s2 ∧ Fld Z h r1 s1 "value" "[B" (.ref r2) ∧ Fld Z h r1 s1 "coder" "B" iZ ∧ Fld Z h r1 s1 "count" "I" iZ ∧ Arv Z h r2 r3 .byte 16 [iZ, iZ, iZ, iZ, iZ, iZ, iZ, iZ, iZ, iZ, iZ, iZ, iZ, iZ, iZ, iZ] iZ ∧ v = none) := by
  refine CtrN.intro (L0 := #[vr a1]) (plainFor_of_name pn3) O0 (own_entry rfl) ?_
  intro p e s m below meth c T0 hy hml hret hlk hnm W0
  refine o_aloadN W0 1 (hb hy d7_0) rfl rfl rfl ?_
  refine o_initO W0 (w40 hw) (w12 hw) (w13 hw) (by rw [hml]; rfl) 4 (hb hy d7_1) rfl (by decide) 0 (by exact Nat.le_of_eq rfl) (by decide) ?_
  intro T1 W1
  refine o_aloadN W1 5 (hb hy d7_4) rfl rfl rfl ?_
  refine o_new W1 (w41 hw) (w42 hw) (w43 hw) tri 8 (hb hy d7_5) rfl (cells' := 1) (slots' := 4) rfl rfl (by decide) (by decide) ?_
  intro b2 T2 h2 W2 E2 ge2 gz2 gb2 A2 D2
  have Fb2_value : Fld Z h2 b2 s1 "value" "[B" .null := D2 (Or.inl (w56 hw)) (ty := (.array .byte)) (by decide)
  have Fb2_coder : Fld Z h2 b2 s1 "coder" "B" iZ := D2 (Or.inl (w58 hw)) (ty := .byte) (by decide)
  have Fb2_count : Fld Z h2 b2 s1 "count" "I" iZ := D2 (Or.inl (w88 hw)) (ty := .int) (by decide)
  refine o_dup W2 9 (hb hy d7_8) rfl rfl ?_
  refine o_specialC W2 rfl (w44 hw) (w45 hw) (w46 hw) (by decide) (w43 hw) (rm4 l hw gCS b2 h2 W2.old SgCS NgCS A2 Fb2_value Fb2_coder Fb2_count gz2) 2 2 20 (by decide) (by rw [hml]; rfl) (lenOf pd3 rfl) [(.ref b2), (.ref a1)] rfl rfl 12 (hb hy d7_9) rfl rfl rfl (allS ⟨gz2, (Or.inr gb2)⟩ all0) tri ?_
  intro v3 T3 h3 lo3 W3 K3 q3
  obtain ⟨r1_3, r2_3, P3_0, P3_1, P3_2, P3_3, P3_4, rfl⟩ := q3.2.2
  show Gl _ _ _ _ _ _ _ _ [(.ref b2), (.ref a1)]
  have c4 := ((z0.ext E2).keep K3)
  have c5 := ((z1.ext E2).keep K3 (ninS (own_ne z0.lt ge2) nin0))
  refine o_putF W3 (w59 hw) Via.refl c5 c4 (Or.inr ⟨(w60 hw), rfl, hnm⟩) (w35 hw) (ty := (.object s2)) (v' := (.ref b2)) (by decide) rfl rfl z2 m0 tri 15 (hb hy d7_12) rfl ?_
  intro T6 h6 lo6 W6 R6
  have F6 := c5.same R6
  have c7 := (c4.wr R6)
  have c8 := ((A2.keep K3).wr R6)
  have c9 := (P3_1.other R6 (Or.inl (own_ne' z0.lt ge2)))
  have c10 := (P3_2.other R6 (Or.inl (own_ne' z0.lt ge2)))
  have c11 := (P3_3.other R6 (Or.inl (own_ne' z0.lt ge2)))
  have c12 := (z0.ext E2)
  have c13 := (P3_4.other R6 (own_ne' c12.lt P3_0))
  exact o_ret0 W6 hlk hret (hb hy d7_15) (by decide) (by decide) ⟨b2, r1_3, r2_3, gb2, (Nat.le_trans W2.keep.1 P3_0), F6, c8, c9, c10, c11, c13, rfl⟩
theorem rm6 (l : Launch) {Z a0} (hw : HW Z a0) (gCS : Int32) (a1 : Addr) (h0 : Heap) (O0 : Old Z Z.heap.size h0) (SgCS : Sta Z Z.heap s0 s3 "Z" (.int gCS)) (NgCS : ¬ (gCS = (0 : Int32))) (z0 : Fld Z h0 a1 s0 "coder" "B" iZ) :
    CtrN l Z mn5 jdk_42_method_152_code 1 (some .byte) [] (⟨0, 0, 0, 0⟩ : Room) #[(.ref a1)] h0 [] (fun v h => v = some iZ) := by
  refine CtrN.intro (L0 := #[vr a1]) (plainFor_of_name pn0) O0 (own_entry rfl) ?_
  intro p e s m below meth c T0 hy hml hret hlk hnm W0
  refine o_getS W0 (w22 hw) Via.refl (SgCS.ext W0.ox) 3 (hb hy d14_0) rfl ?_
  intro T1 W1
  refine o_ifN W1 6 (hb hy d14_3) (XT.i0_eq_f NgCS) rfl <| o_aloadN W1 7 (hb hy d14_6) rfl rfl rfl ?_
  refine o_getF W1 (w21 hw) Via.refl z0 10 (hb hy d14_7) rfl ?_
  intro T2 W2
  refine o_goto W2 14 (hb hy d14_10) (by decide) rfl ?_
  exact o_retN W2 hlk (t := .byte) hret (by simp) (z' := (0 : Int32)) (by decide) (hb hy d14_14) (by decide) (by decide) rfl
theorem rm7 (l : Launch) {Z a0} (hw : HW Z a0) (gCS : Int32) (a1 a2 : Addr) (z0 : ClassId) (h0 : Heap) (O0 : Old Z Z.heap.size h0) (z1 : Fld Z h0 a1 s0 "value" "[B" (.ref a2)) (z2 : Arv Z h0 a2 z0 .byte 2 [(.int (b8 60)), (.int (b8 47))] iZ) (z3 : Exa Z h0 a1 s0) (SgCS : Sta Z Z.heap s0 s3 "Z" (.int gCS)) (NgCS : ¬ (gCS = (0 : Int32))) (z4 : Fld Z h0 a1 s0 "coder" "B" iZ) :
    CtrN l Z mn6 jdk_42_method_54_code 1 (some .int) [] (⟨1, 0, 0, 13⟩ : Room) #[(.ref a1)] h0 [] (fun v h => v = some (.int 2)) := by
  refine CtrN.intro (L0 := #[vr a1]) (plainFor_of_name pn0) O0 (own_entry rfl) ?_
  intro p e s m below meth c T0 hy hml hret hlk hnm W0
  refine o_aloadN W0 1 (hb hy d13_0) rfl rfl rfl ?_
  refine o_getF W0 (w20 hw) Via.refl z1 4 (hb hy d13_1) rfl ?_
  intro T1 W1
  refine o_len W1 z2 5 (hb hy d13_4) rfl <| o_aloadN W1 6 (hb hy d13_5) rfl rfl rfl ?_
  refine o_virtualC W1 (w82 hw) (w83 hw) (o_nf W1 rfl (w85 hw)) (w85 hw) (w84 hw) (by decide) z3 (w86 hw) (w3 hw) (rm6 l hw gCS a1 h0 W1.old SgCS NgCS z4) 1 0 0 (by decide) (by rw [hml]; rfl) (lenOf pd4 rfl) [(.int 2)] rfl rfl 9 (hb hy d13_6) rfl rfl rfl all0 tri ?_
  intro v2 T2 h2 lo2 W2 K2 q2
  obtain rfl := q2.2.2
  show Gl _ _ _ _ _ _ _ _ [iZ, (.int 2)]
  refine o_ishr W2 (v := 2) 10 (hb hy d13_9) (by decide) rfl ?_
  exact o_retI W2 hlk hret (hb hy d13_10) (by decide) (by decide) rfl
theorem rm8 (l : Launch) {Z a0} (hw : HW Z a0) (a1 a2 : Addr) (z0 : ClassId) (h0 : Heap) (O0 : Old Z Z.heap.size h0) (z1 : Fld Z h0 a1 s1 "value" "[B" (.ref a2)) (z2 : Arv Z h0 a2 z0 .byte 16 [iZ, iZ, iZ, iZ, iZ, iZ, iZ, iZ, iZ, iZ, iZ, iZ, iZ, iZ, iZ, iZ] iZ) (z3 : Fld Z h0 a1 s1 "coder" "B" iZ) :
    CtrN l Z mn7 jdk_68_method_9_code 3 none [] (⟨0, 0, 0, 0⟩ : Room) #[(.ref a1), (.int 2)] h0 [] (fun v h => v = none) := by
  refine CtrN.intro (L0 := #[vr a1, vi 2, un]) (plainFor_of_name pn1) O0 (own_entry rfl) ?_
  intro p e s m below meth c T0 hy hml hret hlk hnm W0
  refine o_aloadN W0 1 (hb hy d15_0) rfl rfl rfl ?_
  refine o_getF W0 (w55 hw) Via.refl z1 4 (hb hy d15_1) rfl ?_
  intro T1 W1
  refine o_len W1 z2 5 (hb hy d15_4) rfl <| o_aloadN W1 6 (hb hy d15_5) rfl rfl rfl ?_
  refine o_getF W1 (w57 hw) Via.refl z3 9 (hb hy d15_6) rfl ?_
  intro T2 W2
  refine o_ishr W2 (v := 16) 10 (hb hy d15_9) (by decide) rfl <| o_istoreN W2 (L' := #[vr a1, vi 2, vi 16]) 11 (hb hy d15_10) rfl rfl <| o_iloadN W2 12 (hb hy d15_11) rfl rfl <| o_iloadN W2 13 (hb hy d15_12) rfl rfl <| o_isub W2 (v := (-14 : Int32)) 14 (hb hy d15_13) (by decide) rfl <| o_ifY W2 38 (hb hy d15_14) (XT.i0_le_t (by decide)) (by decide) rfl ?_
  exact o_ret0 W2 hlk hret (hb hy d15_38) (by decide) (by decide) rfl
theorem rm9 (l : Launch) {Z a0} (hw : HW Z a0) (gCS : Int32) (a1 a2 : Addr) (h0 : Heap) (O0 : Old Z Z.heap.size h0) (SgCS : Sta Z Z.heap s0 s3 "Z" (.int gCS)) (NgCS : ¬ (gCS = (0 : Int32))) (z0 : Fld Z h0 a1 s1 "coder" "B" iZ) (z1 : Exa Z h0 a2 s0) (z2 : Fld Z h0 a2 s0 "coder" "B" iZ) :
    CtrN l Z mn8 jdk_68_method_71_code 2 none [] (⟨1, 0, 0, 13⟩ : Room) #[(.ref a1), (.ref a2)] h0 [] (fun v h => v = none) := by
  refine CtrN.intro (L0 := #[vr a1, vr a2]) (plainFor_of_name pn1) O0 (own_entry rfl) ?_
  intro p e s m below meth c T0 hy hml hret hlk hnm W0
  refine o_getS W0 (w54 hw) Via.refl (SgCS.ext W0.ox) 3 (hb hy d17_0) rfl ?_
  intro T1 W1
  refine o_ifN W1 6 (hb hy d17_3) (XT.i0_eq_f NgCS) rfl <| o_aloadN W1 7 (hb hy d17_6) rfl rfl rfl ?_
  refine o_getF W1 (w57 hw) Via.refl z0 10 (hb hy d17_7) rfl ?_
  intro T2 W2
  refine o_aloadN W2 11 (hb hy d17_10) rfl rfl rfl ?_
  refine o_virtualC W2 (w104 hw) (w83 hw) (o_nf W2 rfl (w85 hw)) (w85 hw) (w84 hw) (by decide) z1 (w86 hw) (w3 hw) (rm6 l hw gCS a2 h0 W2.old SgCS NgCS z2) 1 0 0 (by decide) (by rw [hml]; rfl) (lenOf pd4 rfl) [iZ] rfl rfl 14 (hb hy d17_11) rfl rfl rfl all0 tri ?_
  intro v3 T3 h3 lo3 W3 K3 q3
  obtain rfl := q3.2.2
  show Gl _ _ _ _ _ _ _ _ [iZ, iZ]
  refine o_icmpY W3 21 (hb hy d17_14) (XT.ii_eq_t (by decide)) (by decide) rfl ?_
  exact o_ret0 W3 hlk hret (hb hy d17_21) (by decide) (by decide) rfl
theorem rm10 (l : Launch) {Z a0} (hw : HW Z a0) (gCS : Int32) (a1 a2 a3 : Addr) (z0 z1 : ClassId) (h0 : Heap) (O0 : Old Z Z.heap.size h0) (z2 : Exa Z h0 a1 s0) (SgCS : Sta Z Z.heap s0 s3 "Z" (.int gCS)) (NgCS : ¬ (gCS = (0 : Int32))) (z3 : Fld Z h0 a1 s0 "coder" "B" iZ) (z4 : Fld Z h0 a1 s0 "value" "[B" (.ref a3)) (z5 : Arv Z h0 a3 z0 .byte 2 [(.int (b8 60)), (.int (b8 47))] iZ) (z6 : Arv Z h0 a2 z1 .byte 16 [iZ, iZ, iZ, iZ, iZ, iZ, iZ, iZ, iZ, iZ, iZ, iZ, iZ, iZ, iZ, iZ] iZ) (z7 : Z.heap.size ≤ a2) :
    CtrN l Z mn9 jdk_42_method_147_code 4 none [] (⟨1, 0, 0, 27⟩ : Room) #[(.ref a1), (.ref a2), iZ, iZ] h0 [a2] (fun v h => Arv Z h a2 z1 .byte 16 [(.int (b8 60)), (.int (b8 47)), iZ, iZ, iZ, iZ, iZ, iZ, iZ, iZ, iZ, iZ, iZ, iZ, iZ, iZ] iZ ∧ v = none) := by
  refine CtrN.intro (L0 := #[vr a1, vr a2, vi 0, vi 0]) (plainFor_of_name pn0) O0 (own_entry rfl) ?_
  intro p e s m below meth c T0 hy hml hret hlk hnm W0
  refine o_aloadN W0 1 (hb hy d18_0) rfl rfl rfl ?_
  refine o_virtualC W0 (w82 hw) (w83 hw) (o_nf W0 rfl (w85 hw)) (w85 hw) (w84 hw) (by decide) z2 (w86 hw) (w3 hw) (rm6 l hw gCS a1 h0 W0.old SgCS NgCS z3) 0 0 0 (by decide) (by rw [hml]; rfl) (lenOf pd4 rfl) [] rfl rfl 4 (hb hy d18_1) rfl rfl rfl all0 tri ?_
  intro v1 T1 h1 lo1 W1 K1 q1
  obtain rfl := q1.2.2
  show Gl _ _ _ _ _ _ _ _ [iZ]
  refine o_iloadN W1 5 (hb hy d18_4) rfl rfl <| o_icmpN W1 8 (hb hy d18_5) (XT.ii_ne_f (by decide)) rfl <| o_aloadN W1 9 (hb hy d18_8) rfl rfl rfl ?_
  have c2 := (z4.keep K1 nin0)
  refine o_getF W1 (w20 hw) Via.refl c2 12 (hb hy d18_9) rfl ?_
  intro T3 W3
  refine o_iconst W3 (v := 0) 13 (hb hy d18_12) rfl rfl <| o_aloadN W3 14 (hb hy d18_13) rfl rfl rfl <| o_iloadN W3 15 (hb hy d18_14) rfl rfl <| o_iloadN W3 16 (hb hy d18_15) rfl rfl <| o_ishl W3 (v := 0) 17 (hb hy d18_16) (by decide) rfl <| o_aloadN W3 18 (hb hy d18_17) rfl rfl rfl ?_
  refine o_getF W3 (w20 hw) Via.refl c2 21 (hb hy d18_18) rfl ?_
  intro T4 W4
  have c5 := (z5.keep K1 nin0)
  refine o_len W4 c5 22 (hb hy d18_21) rfl ?_
  have c6 := (z6.keep K1 nin0)
  refine o_copy W4 (w110 hw) (w113 hw) (w111 hw) (w112 hw) c5 c6 (us := [(.int (b8 60)), (.int (b8 47))]) (Or.inl ⟨rfl, rfl⟩) (by decide) (by decide) (by decide) (by decide) (by decide) rfl (Nat.le_of_ble_eq_true rfl) (vd' := [(.int (b8 60)), (.int (b8 47)), iZ, iZ, iZ, iZ, iZ, iZ, iZ, iZ, iZ, iZ, iZ, iZ, iZ, iZ]) rfl z7 m0 tri (by rw [hml]; rfl) 25 (hb hy d18_22) rfl (by decide) 0 (by exact Nat.le_of_eq rfl) (by decide) ?_
  intro T7 h7 lo7 W7 K7 V7
  refine o_goto W7 43 (hb hy d18_25) (by decide) rfl ?_
  exact o_ret0 W7 hlk hret (hb hy d18_43) (by decide) (by decide) ⟨V7, rfl⟩
theorem rm11 (l : Launch) {Z a0} (hw : HW Z a0) (gCS : Int32) (a1 a2 a3 a4 : Addr) (z0 z1 : ClassId) (h0 : Heap) (O0 : Old Z Z.heap.size h0) (z2 : Exa Z h0 a1 s2) (SgCS : Sta Z Z.heap s0 s3 "Z" (.int gCS)) (NgCS : ¬ (gCS = (0 : Int32))) (z3 : Fld Z h0 a1 s1 "coder" "B" iZ) (z4 : Exa Z h0 a2 s0) (z5 : Fld Z h0 a2 s0 "coder" "B" iZ) (z6 : Fld Z h0 a1 s1 "value" "[B" (.ref a3)) (z7 : Fld Z h0 a2 s0 "value" "[B" (.ref a4)) (z8 : Arv Z h0 a4 z0 .byte 2 [(.int (b8 60)), (.int (b8 47))] iZ) (z9 : Arv Z h0 a3 z1 .byte 16 [iZ, iZ, iZ, iZ, iZ, iZ, iZ, iZ, iZ, iZ, iZ, iZ, iZ, iZ, iZ, iZ] iZ) (z10 : Z.heap.size ≤ a3) :
    CtrN l Z mn10 jdk_68_method_73_code 3 none [] (⟨2, 0, 0, 42⟩ : Room) #[(.ref a1), iZ, (.ref a2)] h0 [a3] (fun v h => Arv Z h a3 z1 .byte 16 [(.int (b8 60)), (.int (b8 47)), iZ, iZ, iZ, iZ, iZ, iZ, iZ, iZ, iZ, iZ, iZ, iZ, iZ, iZ] iZ ∧ v = none) := by
  refine CtrN.intro (L0 := #[vr a1, vi 0, vr a2]) (plainFor_of_name pn1) O0 (own_entry rfl) ?_
  intro p e s m below meth c T0 hy hml hret hlk hnm W0
  refine o_aloadN W0 1 (hb hy d16_0) rfl rfl rfl <| o_aloadN W0 2 (hb hy d16_1) rfl rfl rfl ?_
  refine o_privateC W0 (w99 hw) (w100 hw) (w102 hw) (w101 hw) (w103 hw) (by decide) z2 (w51 hw) (rm9 l hw gCS a1 a2 h0 W0.old SgCS NgCS z3 z4 z5) 0 0 0 (by decide) (by rw [hml]; rfl) (lenOf pd6 rfl) [] rfl rfl 5 (hb hy d16_2) rfl rfl rfl all0 tri ?_
  intro v1 T1 h1 lo1 W1 K1 q1
  obtain rfl := q1.2.2
  show Gl _ _ _ _ _ _ _ _ []
  refine o_aloadN W1 6 (hb hy d16_5) rfl rfl rfl <| o_aloadN W1 7 (hb hy d16_6) rfl rfl rfl ?_
  have c2 := (z6.keep K1 nin0)
  refine o_getF W1 (w55 hw) Via.refl c2 10 (hb hy d16_7) rfl ?_
  intro T3 W3
  refine o_iloadN W3 11 (hb hy d16_10) rfl rfl <| o_aloadN W3 12 (hb hy d16_11) rfl rfl rfl ?_
  have c4 := (z3.keep K1 nin0)
  refine o_getF W3 (w57 hw) Via.refl c4 15 (hb hy d16_12) rfl ?_
  intro T5 W5
  have c6 := (z5.keep K1 nin0)
  have c7 := (z7.keep K1 nin0)
  have c8 := (z8.keep K1 nin0)
  have c9 := (z9.keep K1 nin0)
  have c10 := (z4.keep K1)
  refine o_virtualC W5 (w105 hw) (w106 hw) (o_nf W5 rfl (w108 hw)) (w108 hw) (w107 hw) (by decide) c10 (w109 hw) (w3 hw) (rm10 l hw gCS a2 a3 a4 z0 z1 h1 W5.old c10 SgCS NgCS c6 c7 c8 c9 z10) 0 0 0 (by decide) (by rw [hml]; rfl) (lenOf pd7 rfl) [] rfl rfl 18 (hb hy d16_15) rfl rfl rfl (allS ⟨z10, m0⟩ all0) tri ?_
  intro v11 T11 h11 lo11 W11 K11 q11
  obtain ⟨P11_0, rfl⟩ := q11.2.2
  show Gl _ _ _ _ _ _ _ _ []
  exact o_ret0 W11 hlk hret (hb hy d16_18) (by decide) (by decide) ⟨P11_0, rfl⟩
theorem rm12 (l : Launch) {Z a0} (hw : HW Z a0) (gCS : Int32) (a1 a2 a3 : Addr) (z0 : ClassId) (a4 : Addr) (z1 : ClassId) (h0 : Heap) (O0 : Old Z Z.heap.size h0) (z2 : Exa Z h0 a2 s0) (z3 : Fld Z h0 a2 s0 "value" "[B" (.ref a3)) (z4 : Arv Z h0 a3 z0 .byte 2 [(.int (b8 60)), (.int (b8 47))] iZ) (SgCS : Sta Z Z.heap s0 s3 "Z" (.int gCS)) (NgCS : ¬ (gCS = (0 : Int32))) (z5 : Fld Z h0 a2 s0 "coder" "B" iZ) (z6 : Fld Z h0 a1 s1 "count" "I" iZ) (z7 : Exa Z h0 a1 s2) (z8 : Fld Z h0 a1 s1 "value" "[B" (.ref a4)) (z9 : Arv Z h0 a4 z1 .byte 16 [iZ, iZ, iZ, iZ, iZ, iZ, iZ, iZ, iZ, iZ, iZ, iZ, iZ, iZ, iZ, iZ] iZ) (z10 : Fld Z h0 a1 s1 "coder" "B" iZ) (z11 : Z.heap.size ≤ a4) (z12 : Z.heap.size ≤ a1) :
    CtrN l Z mn11 jdk_68_method_22_code 3 (some (.object s1)) [] (⟨3, 0, 0, 56⟩ : Room) #[(.ref a1), (.ref a2)] h0 [a4, a1] (fun v h => Fld Z h a1 s1 "count" "I" (.int 2) ∧ Fld Z h a1 s1 "value" "[B" (.ref a4) ∧ Arv Z h a4 z1 .byte 16 [(.int (b8 60)), (.int (b8 47)), iZ, iZ, iZ, iZ, iZ, iZ, iZ, iZ, iZ, iZ, iZ, iZ, iZ, iZ] iZ ∧ Fld Z h a1 s1 "coder" "B" iZ ∧ v = some (.ref a1)) := by
  refine CtrN.intro (L0 := #[vr a1, vr a2, un]) (plainFor_of_name pn1) O0 (own_entry rfl) ?_
  intro p e s m below meth c T0 hy hml hret hlk hnm W0
  refine o_aloadN W0 1 (hb hy d12_0) rfl rfl rfl ?_
  refine o_ifnonnullY W0 9 (hb hy d12_1) (by decide) rfl ?_
  refine o_aloadN W0 10 (hb hy d12_9) rfl rfl rfl ?_
  refine o_virtualC W0 (w77 hw) (w78 hw) (o_nf W0 rfl (w80 hw)) (w80 hw) (w79 hw) (by decide) z2 (w81 hw) (w3 hw) (rm7 l hw gCS a2 a3 z0 h0 W0.old z3 z4 z2 SgCS NgCS z5) 0 0 0 (by decide) (by rw [hml]; rfl) (lenOf pd5 rfl) [] rfl rfl 13 (hb hy d12_10) rfl rfl rfl all0 tri ?_
  intro v1 T1 h1 lo1 W1 K1 q1
  obtain rfl := q1.2.2
  show Gl _ _ _ _ _ _ _ _ [(.int 2)]
  refine o_istoreN W1 (L' := #[vr a1, vr a2, vi 2]) 14 (hb hy d12_13) rfl rfl <| o_aloadN W1 15 (hb hy d12_14) rfl rfl rfl <| o_aloadN W1 16 (hb hy d12_15) rfl rfl rfl ?_
  have c2 := (z6.keep K1 nin0)
  refine o_getF W1 (w87 hw) Via.refl c2 19 (hb hy d12_16) rfl ?_
  intro T3 W3
  refine o_iloadN W3 20 (hb hy d12_19) rfl rfl <| o_iadd W3 (v := 2) 21 (hb hy d12_20) (by decide) rfl ?_
  have c4 := (z7.keep K1)
  have c5 := (z8.keep K1 nin0)
  have c6 := (z9.keep K1 nin0)
  have c7 := (z10.keep K1 nin0)
  refine o_privateC W3 (w89 hw) (w90 hw) (w92 hw) (w91 hw) (w93 hw) (by decide) c4 (w51 hw) (rm8 l hw a1 a4 z1 h1 W3.old c5 c6 c7) 0 0 0 (by decide) (by rw [hml]; rfl) (lenOf pd2 rfl) [] rfl rfl 24 (hb hy d12_21) rfl rfl rfl all0 tri ?_
  intro v8 T8 h8 lo8 W8 K8 q8
  obtain rfl := q8.2.2
  show Gl _ _ _ _ _ _ _ _ []
  refine o_aloadN W8 25 (hb hy d12_24) rfl rfl rfl <| o_aloadN W8 26 (hb hy d12_25) rfl rfl rfl ?_
  have c9 := (c2.keep K8 nin0)
  refine o_getF W8 (w87 hw) Via.refl c9 29 (hb hy d12_26) rfl ?_
  intro T10 W10
  refine o_aloadN W10 30 (hb hy d12_29) rfl rfl rfl ?_
  have c11 := (c7.keep K8 nin0)
  have c12 := ((z5.keep K1 nin0).keep K8 nin0)
  have c13 := (c5.keep K8 nin0)
  have c14 := ((z3.keep K1 nin0).keep K8 nin0)
  have c15 := ((z4.keep K1 nin0).keep K8 nin0)
  have c16 := (c6.keep K8 nin0)
  have c17 := (c4.keep K8)
  have c18 := ((z2.keep K1).keep K8)
  refine o_privateC W10 (w94 hw) (w95 hw) (w97 hw) (w96 hw) (w98 hw) (by decide) c17 (w51 hw) (rm11 l hw gCS a1 a2 a4 a3 z0 z1 h8 W10.old c17 SgCS NgCS c11 c18 c12 c13 c14 c15 c16 z11) 0 0 0 (by decide) (by rw [hml]; rfl) (lenOf pd8 rfl) [] rfl rfl 33 (hb hy d12_30) rfl rfl rfl (allS ⟨z11, m0⟩ all0) tri ?_
  intro v19 T19 h19 lo19 W19 K19 q19
  obtain ⟨P19_0, rfl⟩ := q19.2.2
  show Gl _ _ _ _ _ _ _ _ []
  refine o_aloadN W19 34 (hb hy d12_33) rfl rfl rfl <| o_dup W19 35 (hb hy d12_34) rfl rfl ?_
  have c20 := (c17.keep K19)
  have c21 := (c9.keep K19 (ninS (Exa.neArv c17 c16 (w42 hw)) nin0))
  refine o_getF W19 (w87 hw) Via.refl c21 38 (hb hy d12_35) rfl ?_
  intro T22 W22
  refine o_iloadN W22 39 (hb hy d12_38) rfl rfl <| o_iadd W22 (v := 2) 40 (hb hy d12_39) (by decide) rfl ?_
  refine o_putF W22 (w87 hw) Via.refl c21 c20 (Or.inl (w88 hw)) (w42 hw) (ty := .int) (v' := (.int 2)) (by decide) rfl rfl z12 (Or.inl (List.mem_of_getElem? (i := 1) rfl)) tri 43 (hb hy d12_40) rfl ?_
  intro T23 h23 lo23 W23 R23
  have F23 := c21.same R23
  refine o_aloadN W23 44 (hb hy d12_43) rfl rfl rfl ?_
  have c24 := (c20.wr R23)
  have c25 := ((c13.keep K19 (ninS (Exa.neArv c17 c16 (w42 hw)) nin0)).other R23 (Or.inr (slot_ne (Or.inl (w56 hw)) (Or.inl (w88 hw)) (by decide) (t := (.array .byte)) (t' := .int) (by decide) (by decide))))
  have c26 := ((c11.keep K19 (ninS (Exa.neArv c17 c16 (w42 hw)) nin0)).other R23 (Or.inr (slot_ne (Or.inl (w58 hw)) (Or.inl (w88 hw)) (by decide) (t := .byte) (t' := .int) (by decide) (by decide))))
  have c27 := (P19_0.other R23 (Ne.symm (Exa.neArv c20 P19_0 (w42 hw))))
  exact o_retA W23 hlk (v := (.ref a1)) hret rfl rfl (hb hy d12_44) (by decide) (by decide) ⟨F23, c25, c27, c26, rfl⟩
theorem rm13 (l : Launch) {Z a0} (hw : HW Z a0) (gCS : Int32) (a1 a2 a3 : Addr) (z0 : ClassId) (a4 : Addr) (z1 : ClassId) (h0 : Heap) (O0 : Old Z Z.heap.size h0) (z2 : Exa Z h0 a2 s0) (z3 : Fld Z h0 a2 s0 "value" "[B" (.ref a3)) (z4 : Arv Z h0 a3 z0 .byte 2 [(.int (b8 60)), (.int (b8 47))] iZ) (SgCS : Sta Z Z.heap s0 s3 "Z" (.int gCS)) (NgCS : ¬ (gCS = (0 : Int32))) (z5 : Fld Z h0 a2 s0 "coder" "B" iZ) (z6 : Fld Z h0 a1 s1 "count" "I" iZ) (z7 : Exa Z h0 a1 s2) (z8 : Fld Z h0 a1 s1 "value" "[B" (.ref a4)) (z9 : Arv Z h0 a4 z1 .byte 16 [iZ, iZ, iZ, iZ, iZ, iZ, iZ, iZ, iZ, iZ, iZ, iZ, iZ, iZ, iZ, iZ] iZ) (z10 : Fld Z h0 a1 s1 "coder" "B" iZ) (z11 : Z.heap.size ≤ a4) (z12 : Z.heap.size ≤ a1) :
    CtrN l Z mn12 jdk_67_method_7_code 2 (some (.object s2)) [] (⟨4, 0, 0, 70⟩ : Room) #[(.ref a1), (.ref a2)] h0 [a1, a4] (fun v h => Fld Z h a1 s1 "count" "I" (.int 2) ∧ Fld Z h a1 s1 "value" "[B" (.ref a4) ∧ Arv Z h a4 z1 .byte 16 [(.int (b8 60)), (.int (b8 47)), iZ, iZ, iZ, iZ, iZ, iZ, iZ, iZ, iZ, iZ, iZ, iZ, iZ, iZ] iZ ∧ Fld Z h a1 s1 "coder" "B" iZ ∧ v = some (.ref a1)) := by
  refine CtrN.intro (L0 := #[vr a1, vr a2]) (plainFor_of_name pn2) O0 (own_entry rfl) ?_
  intro p e s m below meth c T0 hy hml hret hlk hnm W0
  refine o_aloadN W0 1 (hb hy d11_0) rfl rfl rfl <| o_aloadN W0 2 (hb hy d11_1) rfl rfl rfl ?_
  refine o_superC W0 (by decide) (w72 hw) (w73 hw) (own_sameN (y := mn11) (y2 := mn7) (by decide) (w73 hw) rfl (w90 hw) (w92 hw)) (w74 hw) (w76 hw) (Ins.self z7) (w51 hw) (rm12 l hw gCS a1 a2 a3 z0 a4 z1 h0 W0.old z2 z3 z4 SgCS NgCS z5 z6 z7 z8 z9 z10 z11 z12) 0 0 0 (by decide) (by rw [hml]; rfl) (lenOf pd9 rfl) [] rfl rfl 5 (hb hy d11_2) rfl rfl rfl (allS ⟨z11, (Or.inl (List.mem_of_getElem? (i := 1) rfl))⟩ (allS ⟨z12, m0⟩ all0)) tri ?_
  intro v1 T1 h1 lo1 W1 K1 q1
  obtain ⟨P1_0, P1_1, P1_2, P1_3, rfl⟩ := q1.2.2
  show Gl _ _ _ _ _ _ _ _ [(.ref a1)]
  refine o_pop W1 6 (hb hy d11_5) rfl rfl <| o_aloadN W1 7 (hb hy d11_6) rfl rfl rfl ?_
  have c2 := (z7.keep K1)
  exact o_retA W1 hlk (v := (.ref a1)) hret rfl rfl (hb hy d11_7) (by decide) (by decide) ⟨P1_0, P1_1, P1_2, P1_3, rfl⟩
theorem rm14 (l : Launch) {Z a0} (hw : HW Z a0) (gCS : Int32) (a1 a2 : Addr) (z0 : ClassId) (h0 : Heap) (O0 : Old Z Z.heap.size h0) (z1 : Fld Z h0 a1 s0 "value" "[B" (.ref a2)) (z2 : Arv Z h0 a2 z0 .byte 0 [] iZ) (z3 : Exa Z h0 a1 s0) (SgCS : Sta Z Z.heap s0 s3 "Z" (.int gCS)) (NgCS : ¬ (gCS = (0 : Int32))) (z4 : Fld Z h0 a1 s0 "coder" "B" iZ) :
    CtrN l Z mn6 jdk_42_method_54_code 1 (some .int) [] (⟨1, 0, 0, 13⟩ : Room) #[(.ref a1)] h0 [] (fun v h => v = some iZ) := by
  refine CtrN.intro (L0 := #[vr a1]) (plainFor_of_name pn0) O0 (own_entry rfl) ?_
  intro p e s m below meth c T0 hy hml hret hlk hnm W0
  refine o_aloadN W0 1 (hb hy d13_0) rfl rfl rfl ?_
  refine o_getF W0 (w20 hw) Via.refl z1 4 (hb hy d13_1) rfl ?_
  intro T1 W1
  refine o_len W1 z2 5 (hb hy d13_4) rfl <| o_aloadN W1 6 (hb hy d13_5) rfl rfl rfl ?_
  refine o_virtualC W1 (w82 hw) (w83 hw) (o_nf W1 rfl (w85 hw)) (w85 hw) (w84 hw) (by decide) z3 (w86 hw) (w3 hw) (rm6 l hw gCS a1 h0 W1.old SgCS NgCS z4) 1 0 0 (by decide) (by rw [hml]; rfl) (lenOf pd4 rfl) [iZ] rfl rfl 9 (hb hy d13_6) rfl rfl rfl all0 tri ?_
  intro v2 T2 h2 lo2 W2 K2 q2
  obtain rfl := q2.2.2
  show Gl _ _ _ _ _ _ _ _ [iZ, iZ]
  refine o_ishr W2 (v := 0) 10 (hb hy d13_9) (by decide) rfl ?_
  exact o_retI W2 hlk hret (hb hy d13_10) (by decide) (by decide) rfl
theorem rm15 (l : Launch) {Z a0} (hw : HW Z a0) (a1 a2 : Addr) (z0 : ClassId) (x1 x2 : Int32) (h0 : Heap) (O0 : Old Z Z.heap.size h0) (z1 : Fld Z h0 a1 s1 "value" "[B" (.ref a2)) (z2 : Arv Z h0 a2 z0 .byte 16 [(.int x1), (.int x2), iZ, iZ, iZ, iZ, iZ, iZ, iZ, iZ, iZ, iZ, iZ, iZ, iZ, iZ] iZ) (z3 : Fld Z h0 a1 s1 "coder" "B" iZ) :
    CtrN l Z mn7 jdk_68_method_9_code 3 none [] (⟨0, 0, 0, 0⟩ : Room) #[(.ref a1), (.int 2)] h0 [] (fun v h => v = none) := by
  refine CtrN.intro (L0 := #[vr a1, vi 2, un]) (plainFor_of_name pn1) O0 (own_entry rfl) ?_
  intro p e s m below meth c T0 hy hml hret hlk hnm W0
  refine o_aloadN W0 1 (hb hy d15_0) rfl rfl rfl ?_
  refine o_getF W0 (w55 hw) Via.refl z1 4 (hb hy d15_1) rfl ?_
  intro T1 W1
  refine o_len W1 z2 5 (hb hy d15_4) rfl <| o_aloadN W1 6 (hb hy d15_5) rfl rfl rfl ?_
  refine o_getF W1 (w57 hw) Via.refl z3 9 (hb hy d15_6) rfl ?_
  intro T2 W2
  refine o_ishr W2 (v := 16) 10 (hb hy d15_9) (by decide) rfl <| o_istoreN W2 (L' := #[vr a1, vi 2, vi 16]) 11 (hb hy d15_10) rfl rfl <| o_iloadN W2 12 (hb hy d15_11) rfl rfl <| o_iloadN W2 13 (hb hy d15_12) rfl rfl <| o_isub W2 (v := (-14 : Int32)) 14 (hb hy d15_13) (by decide) rfl <| o_ifY W2 38 (hb hy d15_14) (XT.i0_le_t (by decide)) (by decide) rfl ?_
  exact o_ret0 W2 hlk hret (hb hy d15_38) (by decide) (by decide) rfl
theorem rm16 (l : Launch) {Z a0} (hw : HW Z a0) (gCS : Int32) (a1 a2 a3 : Addr) (z0 z1 : ClassId) (x1 x2 : Int32) (h0 : Heap) (O0 : Old Z Z.heap.size h0) (z2 : Exa Z h0 a1 s0) (SgCS : Sta Z Z.heap s0 s3 "Z" (.int gCS)) (NgCS : ¬ (gCS = (0 : Int32))) (z3 : Fld Z h0 a1 s0 "coder" "B" iZ) (z4 : Fld Z h0 a1 s0 "value" "[B" (.ref a3)) (z5 : Arv Z h0 a3 z0 .byte 0 [] iZ) (z6 : Arv Z h0 a2 z1 .byte 16 [(.int x1), (.int x2), iZ, iZ, iZ, iZ, iZ, iZ, iZ, iZ, iZ, iZ, iZ, iZ, iZ, iZ] iZ) (z7 : Z.heap.size ≤ a2) :
    CtrN l Z mn9 jdk_42_method_147_code 4 none [] (⟨1, 0, 0, 27⟩ : Room) #[(.ref a1), (.ref a2), (.int 2), iZ] h0 [a2] (fun v h => Arv Z h a2 z1 .byte 16 [(.int x1), (.int x2), iZ, iZ, iZ, iZ, iZ, iZ, iZ, iZ, iZ, iZ, iZ, iZ, iZ, iZ] iZ ∧ v = none) := by
  refine CtrN.intro (L0 := #[vr a1, vr a2, vi 2, vi 0]) (plainFor_of_name pn0) O0 (own_entry rfl) ?_
  intro p e s m below meth c T0 hy hml hret hlk hnm W0
  refine o_aloadN W0 1 (hb hy d18_0) rfl rfl rfl ?_
  refine o_virtualC W0 (w82 hw) (w83 hw) (o_nf W0 rfl (w85 hw)) (w85 hw) (w84 hw) (by decide) z2 (w86 hw) (w3 hw) (rm6 l hw gCS a1 h0 W0.old SgCS NgCS z3) 0 0 0 (by decide) (by rw [hml]; rfl) (lenOf pd4 rfl) [] rfl rfl 4 (hb hy d18_1) rfl rfl rfl all0 tri ?_
  intro v1 T1 h1 lo1 W1 K1 q1
  obtain rfl := q1.2.2
  show Gl _ _ _ _ _ _ _ _ [iZ]
  refine o_iloadN W1 5 (hb hy d18_4) rfl rfl <| o_icmpN W1 8 (hb hy d18_5) (XT.ii_ne_f (by decide)) rfl <| o_aloadN W1 9 (hb hy d18_8) rfl rfl rfl ?_
  have c2 := (z4.keep K1 nin0)
  refine o_getF W1 (w20 hw) Via.refl c2 12 (hb hy d18_9) rfl ?_
  intro T3 W3
  refine o_iconst W3 (v := 0) 13 (hb hy d18_12) rfl rfl <| o_aloadN W3 14 (hb hy d18_13) rfl rfl rfl <| o_iloadN W3 15 (hb hy d18_14) rfl rfl <| o_iloadN W3 16 (hb hy d18_15) rfl rfl <| o_ishl W3 (v := 2) 17 (hb hy d18_16) (by decide) rfl <| o_aloadN W3 18 (hb hy d18_17) rfl rfl rfl ?_
  refine o_getF W3 (w20 hw) Via.refl c2 21 (hb hy d18_18) rfl ?_
  intro T4 W4
  have c5 := (z5.keep K1 nin0)
  refine o_len W4 c5 22 (hb hy d18_21) rfl ?_
  have c6 := (z6.keep K1 nin0)
  refine o_copy W4 (w110 hw) (w113 hw) (w111 hw) (w112 hw) c5 c6 (us := []) (Or.inl ⟨rfl, rfl⟩) (by decide) (by decide) (by decide) (by decide) (by decide) rfl (Nat.le_of_ble_eq_true rfl) (vd' := [(.int x1), (.int x2), iZ, iZ, iZ, iZ, iZ, iZ, iZ, iZ, iZ, iZ, iZ, iZ, iZ, iZ]) rfl z7 m0 tri (by rw [hml]; rfl) 25 (hb hy d18_22) rfl (by decide) 0 (by exact Nat.le_of_eq rfl) (by decide) ?_
  intro T7 h7 lo7 W7 K7 V7
  refine o_goto W7 43 (hb hy d18_25) (by decide) rfl ?_
  exact o_ret0 W7 hlk hret (hb hy d18_43) (by decide) (by decide) ⟨V7, rfl⟩
theorem rm17 (l : Launch) {Z a0} (hw : HW Z a0) (gCS : Int32) (a1 a2 a3 a4 : Addr) (z0 z1 : ClassId) (x1 x2 : Int32) (h0 : Heap) (O0 : Old Z Z.heap.size h0) (z2 : Exa Z h0 a1 s2) (SgCS : Sta Z Z.heap s0 s3 "Z" (.int gCS)) (NgCS : ¬ (gCS = (0 : Int32))) (z3 : Fld Z h0 a1 s1 "coder" "B" iZ) (z4 : Exa Z h0 a2 s0) (z5 : Fld Z h0 a2 s0 "coder" "B" iZ) (z6 : Fld Z h0 a1 s1 "value" "[B" (.ref a3)) (z7 : Fld Z h0 a2 s0 "value" "[B" (.ref a4)) (z8 : Arv Z h0 a4 z0 .byte 0 [] iZ) (z9 : Arv Z h0 a3 z1 .byte 16 [(.int x1), (.int x2), iZ, iZ, iZ, iZ, iZ, iZ, iZ, iZ, iZ, iZ, iZ, iZ, iZ, iZ] iZ) (z10 : Z.heap.size ≤ a3) :
    CtrN l Z mn10 jdk_68_method_73_code 3 none [] (⟨2, 0, 0, 42⟩ : Room) #[(.ref a1), (.int 2), (.ref a2)] h0 [a3] (fun v h => Arv Z h a3 z1 .byte 16 [(.int x1), (.int x2), iZ, iZ, iZ, iZ, iZ, iZ, iZ, iZ, iZ, iZ, iZ, iZ, iZ, iZ] iZ ∧ v = none) := by
  refine CtrN.intro (L0 := #[vr a1, vi 2, vr a2]) (plainFor_of_name pn1) O0 (own_entry rfl) ?_
  intro p e s m below meth c T0 hy hml hret hlk hnm W0
  refine o_aloadN W0 1 (hb hy d16_0) rfl rfl rfl <| o_aloadN W0 2 (hb hy d16_1) rfl rfl rfl ?_
  refine o_privateC W0 (w99 hw) (w100 hw) (w102 hw) (w101 hw) (w103 hw) (by decide) z2 (w51 hw) (rm9 l hw gCS a1 a2 h0 W0.old SgCS NgCS z3 z4 z5) 0 0 0 (by decide) (by rw [hml]; rfl) (lenOf pd6 rfl) [] rfl rfl 5 (hb hy d16_2) rfl rfl rfl all0 tri ?_
  intro v1 T1 h1 lo1 W1 K1 q1
  obtain rfl := q1.2.2
  show Gl _ _ _ _ _ _ _ _ []
  refine o_aloadN W1 6 (hb hy d16_5) rfl rfl rfl <| o_aloadN W1 7 (hb hy d16_6) rfl rfl rfl ?_
  have c2 := (z6.keep K1 nin0)
  refine o_getF W1 (w55 hw) Via.refl c2 10 (hb hy d16_7) rfl ?_
  intro T3 W3
  refine o_iloadN W3 11 (hb hy d16_10) rfl rfl <| o_aloadN W3 12 (hb hy d16_11) rfl rfl rfl ?_
  have c4 := (z3.keep K1 nin0)
  refine o_getF W3 (w57 hw) Via.refl c4 15 (hb hy d16_12) rfl ?_
  intro T5 W5
  have c6 := (z5.keep K1 nin0)
  have c7 := (z7.keep K1 nin0)
  have c8 := (z8.keep K1 nin0)
  have c9 := (z9.keep K1 nin0)
  have c10 := (z4.keep K1)
  refine o_virtualC W5 (w105 hw) (w106 hw) (o_nf W5 rfl (w108 hw)) (w108 hw) (w107 hw) (by decide) c10 (w109 hw) (w3 hw) (rm16 l hw gCS a2 a3 a4 z0 z1 x1 x2 h1 W5.old c10 SgCS NgCS c6 c7 c8 c9 z10) 0 0 0 (by decide) (by rw [hml]; rfl) (lenOf pd7 rfl) [] rfl rfl 18 (hb hy d16_15) rfl rfl rfl (allS ⟨z10, m0⟩ all0) tri ?_
  intro v11 T11 h11 lo11 W11 K11 q11
  obtain ⟨P11_0, rfl⟩ := q11.2.2
  show Gl _ _ _ _ _ _ _ _ []
  exact o_ret0 W11 hlk hret (hb hy d16_18) (by decide) (by decide) ⟨P11_0, rfl⟩
theorem rm18 (l : Launch) {Z a0} (hw : HW Z a0) (gCS : Int32) (a1 a2 a3 : Addr) (z0 : ClassId) (a4 : Addr) (z1 : ClassId) (x1 x2 : Int32) (h0 : Heap) (O0 : Old Z Z.heap.size h0) (z2 : Exa Z h0 a2 s0) (z3 : Fld Z h0 a2 s0 "value" "[B" (.ref a3)) (z4 : Arv Z h0 a3 z0 .byte 0 [] iZ) (SgCS : Sta Z Z.heap s0 s3 "Z" (.int gCS)) (NgCS : ¬ (gCS = (0 : Int32))) (z5 : Fld Z h0 a2 s0 "coder" "B" iZ) (z6 : Fld Z h0 a1 s1 "count" "I" (.int 2)) (z7 : Exa Z h0 a1 s2) (z8 : Fld Z h0 a1 s1 "value" "[B" (.ref a4)) (z9 : Arv Z h0 a4 z1 .byte 16 [(.int x1), (.int x2), iZ, iZ, iZ, iZ, iZ, iZ, iZ, iZ, iZ, iZ, iZ, iZ, iZ, iZ] iZ) (z10 : Fld Z h0 a1 s1 "coder" "B" iZ) (z11 : Z.heap.size ≤ a4) (z12 : Z.heap.size ≤ a1) :
    CtrN l Z mn11 jdk_68_method_22_code 3 (some (.object s1)) [] (⟨3, 0, 0, 56⟩ : Room) #[(.ref a1), (.ref a2)] h0 [a4, a1] (fun v h => Fld Z h a1 s1 "count" "I" (.int 2) ∧ Fld Z h a1 s1 "value" "[B" (.ref a4) ∧ Arv Z h a4 z1 .byte 16 [(.int x1), (.int x2), iZ, iZ, iZ, iZ, iZ, iZ, iZ, iZ, iZ, iZ, iZ, iZ, iZ, iZ] iZ ∧ Fld Z h a1 s1 "coder" "B" iZ ∧ v = some (.ref a1)) := by
  refine CtrN.intro (L0 := #[vr a1, vr a2, un]) (plainFor_of_name pn1) O0 (own_entry rfl) ?_
  intro p e s m below meth c T0 hy hml hret hlk hnm W0
  refine o_aloadN W0 1 (hb hy d12_0) rfl rfl rfl ?_
  refine o_ifnonnullY W0 9 (hb hy d12_1) (by decide) rfl ?_
  refine o_aloadN W0 10 (hb hy d12_9) rfl rfl rfl ?_
  refine o_virtualC W0 (w77 hw) (w78 hw) (o_nf W0 rfl (w80 hw)) (w80 hw) (w79 hw) (by decide) z2 (w81 hw) (w3 hw) (rm14 l hw gCS a2 a3 z0 h0 W0.old z3 z4 z2 SgCS NgCS z5) 0 0 0 (by decide) (by rw [hml]; rfl) (lenOf pd5 rfl) [] rfl rfl 13 (hb hy d12_10) rfl rfl rfl all0 tri ?_
  intro v1 T1 h1 lo1 W1 K1 q1
  obtain rfl := q1.2.2
  show Gl _ _ _ _ _ _ _ _ [iZ]
  refine o_istoreN W1 (L' := #[vr a1, vr a2, vi 0]) 14 (hb hy d12_13) rfl rfl <| o_aloadN W1 15 (hb hy d12_14) rfl rfl rfl <| o_aloadN W1 16 (hb hy d12_15) rfl rfl rfl ?_
  have c2 := (z6.keep K1 nin0)
  refine o_getF W1 (w87 hw) Via.refl c2 19 (hb hy d12_16) rfl ?_
  intro T3 W3
  refine o_iloadN W3 20 (hb hy d12_19) rfl rfl <| o_iadd W3 (v := 2) 21 (hb hy d12_20) (by decide) rfl ?_
  have c4 := (z7.keep K1)
  have c5 := (z8.keep K1 nin0)
  have c6 := (z9.keep K1 nin0)
  have c7 := (z10.keep K1 nin0)
  refine o_privateC W3 (w89 hw) (w90 hw) (w92 hw) (w91 hw) (w93 hw) (by decide) c4 (w51 hw) (rm15 l hw a1 a4 z1 x1 x2 h1 W3.old c5 c6 c7) 0 0 0 (by decide) (by rw [hml]; rfl) (lenOf pd2 rfl) [] rfl rfl 24 (hb hy d12_21) rfl rfl rfl all0 tri ?_
  intro v8 T8 h8 lo8 W8 K8 q8
  obtain rfl := q8.2.2
  show Gl _ _ _ _ _ _ _ _ []
  refine o_aloadN W8 25 (hb hy d12_24) rfl rfl rfl <| o_aloadN W8 26 (hb hy d12_25) rfl rfl rfl ?_
  have c9 := (c2.keep K8 nin0)
  refine o_getF W8 (w87 hw) Via.refl c9 29 (hb hy d12_26) rfl ?_
  intro T10 W10
  refine o_aloadN W10 30 (hb hy d12_29) rfl rfl rfl ?_
  have c11 := (c7.keep K8 nin0)
  have c12 := ((z5.keep K1 nin0).keep K8 nin0)
  have c13 := (c5.keep K8 nin0)
  have c14 := ((z3.keep K1 nin0).keep K8 nin0)
  have c15 := ((z4.keep K1 nin0).keep K8 nin0)
  have c16 := (c6.keep K8 nin0)
  have c17 := (c4.keep K8)
  have c18 := ((z2.keep K1).keep K8)
  refine o_privateC W10 (w94 hw) (w95 hw) (w97 hw) (w96 hw) (w98 hw) (by decide) c17 (w51 hw) (rm17 l hw gCS a1 a2 a4 a3 z0 z1 x1 x2 h8 W10.old c17 SgCS NgCS c11 c18 c12 c13 c14 c15 c16 z11) 0 0 0 (by decide) (by rw [hml]; rfl) (lenOf pd8 rfl) [] rfl rfl 33 (hb hy d12_30) rfl rfl rfl (allS ⟨z11, m0⟩ all0) tri ?_
  intro v19 T19 h19 lo19 W19 K19 q19
  obtain ⟨P19_0, rfl⟩ := q19.2.2
  show Gl _ _ _ _ _ _ _ _ []
  refine o_aloadN W19 34 (hb hy d12_33) rfl rfl rfl <| o_dup W19 35 (hb hy d12_34) rfl rfl ?_
  have c20 := (c17.keep K19)
  have c21 := (c9.keep K19 (ninS (Exa.neArv c17 c16 (w42 hw)) nin0))
  refine o_getF W19 (w87 hw) Via.refl c21 38 (hb hy d12_35) rfl ?_
  intro T22 W22
  refine o_iloadN W22 39 (hb hy d12_38) rfl rfl <| o_iadd W22 (v := 2) 40 (hb hy d12_39) (by decide) rfl ?_
  refine o_putF W22 (w87 hw) Via.refl c21 c20 (Or.inl (w88 hw)) (w42 hw) (ty := .int) (v' := (.int 2)) (by decide) rfl rfl z12 (Or.inl (List.mem_of_getElem? (i := 1) rfl)) tri 43 (hb hy d12_40) rfl ?_
  intro T23 h23 lo23 W23 R23
  have F23 := c21.same R23
  refine o_aloadN W23 44 (hb hy d12_43) rfl rfl rfl ?_
  have c24 := (c20.wr R23)
  have c25 := ((c13.keep K19 (ninS (Exa.neArv c17 c16 (w42 hw)) nin0)).other R23 (Or.inr (slot_ne (Or.inl (w56 hw)) (Or.inl (w88 hw)) (by decide) (t := (.array .byte)) (t' := .int) (by decide) (by decide))))
  have c26 := ((c11.keep K19 (ninS (Exa.neArv c17 c16 (w42 hw)) nin0)).other R23 (Or.inr (slot_ne (Or.inl (w58 hw)) (Or.inl (w88 hw)) (by decide) (t := .byte) (t' := .int) (by decide) (by decide))))
  have c27 := (P19_0.other R23 (Ne.symm (Exa.neArv c20 P19_0 (w42 hw))))
  exact o_retA W23 hlk (v := (.ref a1)) hret rfl rfl (hb hy d12_44) (by decide) (by decide) ⟨F23, c25, c27, c26, rfl⟩
theorem rm19 (l : Launch) {Z a0} (hw : HW Z a0) (gCS : Int32) (a1 a2 a3 : Addr) (z0 : ClassId) (a4 : Addr) (z1 : ClassId) (x1 x2 : Int32) (h0 : Heap) (O0 : Old Z Z.heap.size h0) (z2 : Exa Z h0 a2 s0) (z3 : Fld Z h0 a2 s0 "value" "[B" (.ref a3)) (z4 : Arv Z h0 a3 z0 .byte 0 [] iZ) (SgCS : Sta Z Z.heap s0 s3 "Z" (.int gCS)) (NgCS : ¬ (gCS = (0 : Int32))) (z5 : Fld Z h0 a2 s0 "coder" "B" iZ) (z6 : Fld Z h0 a1 s1 "count" "I" (.int 2)) (z7 : Exa Z h0 a1 s2) (z8 : Fld Z h0 a1 s1 "value" "[B" (.ref a4)) (z9 : Arv Z h0 a4 z1 .byte 16 [(.int x1), (.int x2), iZ, iZ, iZ, iZ, iZ, iZ, iZ, iZ, iZ, iZ, iZ, iZ, iZ, iZ] iZ) (z10 : Fld Z h0 a1 s1 "coder" "B" iZ) (z11 : Z.heap.size ≤ a4) (z12 : Z.heap.size ≤ a1) :
    CtrN l Z mn12 jdk_67_method_7_code 2 (some (.object s2)) [] (⟨4, 0, 0, 70⟩ : Room) #[(.ref a1), (.ref a2)] h0 [a1, a4] (fun v h => Fld Z h a1 s1 "count" "I" (.int 2) ∧ Fld Z h a1 s1 "value" "[B" (.ref a4) ∧ Arv Z h a4 z1 .byte 16 [(.int x1), (.int x2), iZ, iZ, iZ, iZ, iZ, iZ, iZ, iZ, iZ, iZ, iZ, iZ, iZ, iZ] iZ ∧ Fld Z h a1 s1 "coder" "B" iZ ∧ v = some (.ref a1)) := by
  refine CtrN.intro (L0 := #[vr a1, vr a2]) (plainFor_of_name pn2) O0 (own_entry rfl) ?_
  intro p e s m below meth c T0 hy hml hret hlk hnm W0
  refine o_aloadN W0 1 (hb hy d11_0) rfl rfl rfl <| o_aloadN W0 2 (hb hy d11_1) rfl rfl rfl ?_
  refine o_superC W0 (by decide) (w72 hw) (w73 hw) (own_sameN (y := mn11) (y2 := mn7) (by decide) (w73 hw) rfl (w90 hw) (w92 hw)) (w74 hw) (w76 hw) (Ins.self z7) (w51 hw) (rm18 l hw gCS a1 a2 a3 z0 a4 z1 x1 x2 h0 W0.old z2 z3 z4 SgCS NgCS z5 z6 z7 z8 z9 z10 z11 z12) 0 0 0 (by decide) (by rw [hml]; rfl) (lenOf pd9 rfl) [] rfl rfl 5 (hb hy d11_2) rfl rfl rfl (allS ⟨z11, (Or.inl (List.mem_of_getElem? (i := 1) rfl))⟩ (allS ⟨z12, m0⟩ all0)) tri ?_
  intro v1 T1 h1 lo1 W1 K1 q1
  obtain ⟨P1_0, P1_1, P1_2, P1_3, rfl⟩ := q1.2.2
  show Gl _ _ _ _ _ _ _ _ [(.ref a1)]
  refine o_pop W1 6 (hb hy d11_5) rfl rfl <| o_aloadN W1 7 (hb hy d11_6) rfl rfl rfl ?_
  have c2 := (z7.keep K1)
  exact o_retA W1 hlk (v := (.ref a1)) hret rfl rfl (hb hy d11_7) (by decide) (by decide) ⟨P1_0, P1_1, P1_2, P1_3, rfl⟩
theorem rm20 (l : Launch) {Z a0} (hw : HW Z a0) (a1 a2 : Addr) (z0 : ClassId) (x1 x2 : Int32) (h0 : Heap) (O0 : Old Z Z.heap.size h0) (z1 : Fld Z h0 a1 s1 "value" "[B" (.ref a2)) (z2 : Arv Z h0 a2 z0 .byte 16 [(.int x1), (.int x2), iZ, iZ, iZ, iZ, iZ, iZ, iZ, iZ, iZ, iZ, iZ, iZ, iZ, iZ] iZ) (z3 : Fld Z h0 a1 s1 "coder" "B" iZ) :
    CtrN l Z mn7 jdk_68_method_9_code 3 none [] (⟨0, 0, 0, 0⟩ : Room) #[(.ref a1), (.int 3)] h0 [] (fun v h => v = none) := by
  refine CtrN.intro (L0 := #[vr a1, vi 3, un]) (plainFor_of_name pn1) O0 (own_entry rfl) ?_
  intro p e s m below meth c T0 hy hml hret hlk hnm W0
  refine o_aloadN W0 1 (hb hy d15_0) rfl rfl rfl ?_
  refine o_getF W0 (w55 hw) Via.refl z1 4 (hb hy d15_1) rfl ?_
  intro T1 W1
  refine o_len W1 z2 5 (hb hy d15_4) rfl <| o_aloadN W1 6 (hb hy d15_5) rfl rfl rfl ?_
  refine o_getF W1 (w57 hw) Via.refl z3 9 (hb hy d15_6) rfl ?_
  intro T2 W2
  refine o_ishr W2 (v := 16) 10 (hb hy d15_9) (by decide) rfl <| o_istoreN W2 (L' := #[vr a1, vi 3, vi 16]) 11 (hb hy d15_10) rfl rfl <| o_iloadN W2 12 (hb hy d15_11) rfl rfl <| o_iloadN W2 13 (hb hy d15_12) rfl rfl <| o_isub W2 (v := (-13 : Int32)) 14 (hb hy d15_13) (by decide) rfl <| o_ifY W2 38 (hb hy d15_14) (XT.i0_le_t (by decide)) (by decide) rfl ?_
  exact o_ret0 W2 hlk hret (hb hy d15_38) (by decide) (by decide) rfl
theorem rm21 (l : Launch) {Z a0} (hw : HW Z a0) (gCS : Int32) (a1 : Addr) (h0 : Heap) (O0 : Old Z Z.heap.size h0) (SgCS : Sta Z Z.heap s0 s3 "Z" (.int gCS)) (NgCS : ¬ (gCS = (0 : Int32))) (z0 : Fld Z h0 a1 s1 "coder" "B" iZ) :
    CtrN l Z mn13 jdk_68_method_68_code 1 (some .boolean) [] (⟨0, 0, 0, 0⟩ : Room) #[(.ref a1)] h0 [] (fun v h => v = some (.int 1)) := by
  refine CtrN.intro (L0 := #[vr a1]) (plainFor_of_name pn1) O0 (own_entry rfl) ?_
  intro p e s m below meth c T0 hy hml hret hlk hnm W0
  refine o_getS W0 (w54 hw) Via.refl (SgCS.ext W0.ox) 3 (hb hy d21_0) rfl ?_
  intro T1 W1
  refine o_ifN W1 6 (hb hy d21_3) (XT.i0_eq_f NgCS) rfl <| o_aloadN W1 7 (hb hy d21_6) rfl rfl rfl ?_
  refine o_getF W1 (w57 hw) Via.refl z0 10 (hb hy d21_7) rfl ?_
  intro T2 W2
  refine o_ifN W2 13 (hb hy d21_10) (XT.i0_ne_f (by decide)) rfl <| o_iconst W2 (v := 1) 14 (hb hy d21_13) rfl rfl <| o_goto W2 18 (hb hy d21_14) (by decide) rfl ?_
  exact o_retN W2 hlk (t := .boolean) hret (by simp) (z' := (1 : Int32)) (by decide) (hb hy d21_18) (by decide) (by decide) rfl
theorem rm22 (l : Launch) {Z a0} (hw : HW Z a0)  (h0 : Heap) (O0 : Old Z Z.heap.size h0) :
    CtrN l Z mn14 jdk_43_method_3_code 1 (some .boolean) [] (⟨0, 0, 0, 0⟩ : Room) #[(.int 62)] h0 [] (fun v h => v = some (.int 1)) := by
  refine CtrN.intro (L0 := #[vi 62]) (plainFor_of_name pn4) O0 (own_entry rfl) ?_
  intro p e s m below meth c T0 hy hml hret hlk hnm W0
  refine o_iloadN W0 1 (hb hy d22_0) rfl rfl <| o_sipush W0 (v := 255) 4 (hb hy d22_1) (by decide) rfl <| o_icmpN W0 7 (hb hy d22_4) (XT.ii_gt_f (by decide)) rfl <| o_iconst W0 (v := 1) 8 (hb hy d22_7) rfl rfl <| o_goto W0 12 (hb hy d22_8) (by decide) rfl ?_
  exact o_retN W0 hlk (t := .boolean) hret (by simp) (z' := (1 : Int32)) (by decide) (hb hy d22_12) (by decide) (by decide) rfl
theorem rm23 (l : Launch) {Z a0} (hw : HW Z a0) (gCS : Int32) (a1 a2 : Addr) (z0 : ClassId) (x1 x2 : Int32) (h0 : Heap) (O0 : Old Z Z.heap.size h0) (z1 : Fld Z h0 a1 s1 "count" "I" (.int 2)) (z2 : Exa Z h0 a1 s2) (z3 : Fld Z h0 a1 s1 "value" "[B" (.ref a2)) (z4 : Arv Z h0 a2 z0 .byte 16 [(.int x1), (.int x2), iZ, iZ, iZ, iZ, iZ, iZ, iZ, iZ, iZ, iZ, iZ, iZ, iZ, iZ] iZ) (z5 : Fld Z h0 a1 s1 "coder" "B" iZ) (SgCS : Sta Z Z.heap s0 s3 "Z" (.int gCS)) (NgCS : ¬ (gCS = (0 : Int32))) (z6 : Z.heap.size ≤ a1) (z7 : Z.heap.size ≤ a2) :
    CtrN l Z mn15 jdk_68_method_31_code 2 (some (.object s1)) [] (⟨1, 0, 0, 14⟩ : Room) #[(.ref a1), (.int 62)] h0 [a1, a2] (fun v h => Fld Z h a1 s1 "count" "I" (.int 3) ∧ Fld Z h a1 s1 "value" "[B" (.ref a2) ∧ Arv Z h a2 z0 .byte 16 [(.int x1), (.int x2), (.int 62), iZ, iZ, iZ, iZ, iZ, iZ, iZ, iZ, iZ, iZ, iZ, iZ, iZ] iZ ∧ Fld Z h a1 s1 "coder" "B" iZ ∧ v = some (.ref a1)) := by
  refine CtrN.intro (L0 := #[vr a1, vi 62]) (plainFor_of_name pn1) O0 (own_entry rfl) ?_
  intro p e s m below meth c T0 hy hml hret hlk hnm W0
  refine o_aloadN W0 1 (hb hy d20_0) rfl rfl rfl <| o_aloadN W0 2 (hb hy d20_1) rfl rfl rfl ?_
  refine o_getF W0 (w87 hw) Via.refl z1 5 (hb hy d20_2) rfl ?_
  intro T1 W1
  refine o_iconst W1 (v := 1) 6 (hb hy d20_5) rfl rfl <| o_iadd W1 (v := 3) 7 (hb hy d20_6) (by decide) rfl ?_
  refine o_privateC W1 (w89 hw) (w90 hw) (w92 hw) (w91 hw) (w93 hw) (by decide) z2 (w51 hw) (rm20 l hw a1 a2 z0 x1 x2 h0 W1.old z3 z4 z5) 0 0 0 (by decide) (by rw [hml]; rfl) (lenOf pd2 rfl) [] rfl rfl 10 (hb hy d20_7) rfl rfl rfl all0 tri ?_
  intro v2 T2 h2 lo2 W2 K2 q2
  obtain rfl := q2.2.2
  show Gl _ _ _ _ _ _ _ _ []
  refine o_aloadN W2 11 (hb hy d20_10) rfl rfl rfl ?_
  have c3 := (z5.keep K2 nin0)
  have c4 := (z2.keep K2)
  refine o_virtualC W2 (w123 hw) (w124 hw) (o_nf W2 rfl (w126 hw)) (w126 hw) (w125 hw) (by decide) c4 (w127 hw) (w51 hw) (rm21 l hw gCS a1 h2 W2.old SgCS NgCS c3) 0 0 0 (by decide) (by rw [hml]; rfl) (lenOf pd11 rfl) [] rfl rfl 14 (hb hy d20_11) rfl rfl rfl all0 tri ?_
  intro v5 T5 h5 lo5 W5 K5 q5
  obtain rfl := q5.2.2
  show Gl _ _ _ _ _ _ _ _ [(.int 1)]
  refine o_ifN W5 17 (hb hy d20_14) (XT.i0_eq_f (by decide)) rfl <| o_iloadN W5 18 (hb hy d20_17) rfl rfl ?_
  refine o_staticC W5 (w128 hw) (w129 hw) (w130 hw) (w131 hw) (by decide) (rm22 l hw  h5 W5.old ) 0 0 0 (by decide) (by rw [hml]; rfl) (lenOf pd12 rfl) [] rfl rfl 21 (hb hy d20_18) rfl rfl rfl all0 tri ?_
  intro v6 T6 h6 lo6 W6 K6 q6
  obtain rfl := q6.2.2
  show Gl _ _ _ _ _ _ _ _ [(.int 1)]
  refine o_ifN W6 24 (hb hy d20_21) (XT.i0_eq_f (by decide)) rfl <| o_aloadN W6 25 (hb hy d20_24) rfl rfl rfl ?_
  have c7 := (((z3.keep K2 nin0).keep K5 nin0).keep K6 nin0)
  refine o_getF W6 (w55 hw) Via.refl c7 28 (hb hy d20_25) rfl ?_
  intro T8 W8
  refine o_aloadN W8 29 (hb hy d20_28) rfl rfl rfl <| o_dup W8 30 (hb hy d20_29) rfl rfl ?_
  have c9 := (((z1.keep K2 nin0).keep K5 nin0).keep K6 nin0)
  refine o_getF W8 (w87 hw) Via.refl c9 33 (hb hy d20_30) rfl ?_
  intro T10 W10
  refine o_dupX1 W10 34 (hb hy d20_33) rfl rfl rfl <| o_iconst W10 (v := 1) 35 (hb hy d20_34) rfl rfl <| o_iadd W10 (v := 3) 36 (hb hy d20_35) (by decide) rfl ?_
  have c11 := ((c4.keep K5).keep K6)
  refine o_putF W10 (w87 hw) Via.refl c9 c11 (Or.inl (w88 hw)) (w42 hw) (ty := .int) (v' := (.int 3)) (by decide) rfl rfl z6 m0 tri 39 (hb hy d20_36) rfl ?_
  intro T12 h12 lo12 W12 R12
  have F12 := c9.same R12
  refine o_iloadN W12 40 (hb hy d20_39) rfl rfl <| o_i2b W12 (v := 62) 41 (hb hy d20_40) (by decide) rfl ?_
  have c13 := (c11.wr R12)
  have c14 := (((z4.keep K2 nin0).keep K5 nin0).keep K6 nin0)
  have c15 := ((((z4.keep K2 nin0).keep K5 nin0).keep K6 nin0).other R12 (Ne.symm (Exa.neArv c11 c14 (w42 hw))))
  refine o_stB W12 c15 (i := 2) (x' := (62 : Int32)) (by decide) (by decide) (by decide) (Nat.lt_of_sub_eq_succ rfl) (by decide) (vs' := [(.int x1), (.int x2), (.int 62), iZ, iZ, iZ, iZ, iZ, iZ, iZ, iZ, iZ, iZ, iZ, iZ, iZ]) rfl z7 (Or.inl (List.mem_of_getElem? (i := 1) rfl)) tri 42 (hb hy d20_41) rfl ?_
  intro T16 h16 lo16 W16 R16 V16
  refine o_goto W16 75 (hb hy d20_42) (by decide) rfl <| o_aloadN W16 76 (hb hy d20_75) rfl rfl rfl ?_
  have c17 := (c13.wr R16)
  have c18 := (F12.other R16 (Or.inl (Exa.neArv c13 c15 (w42 hw))))
  have c19 := ((c7.other R12 (Or.inr (slot_ne (Or.inl (w56 hw)) (Or.inl (w88 hw)) (by decide) (t := (.array .byte)) (t' := .int) (by decide) (by decide)))).other R16 (Or.inl (Exa.neArv c13 c15 (w42 hw))))
  have c20 := ((((c3.keep K5 nin0).keep K6 nin0).other R12 (Or.inr (slot_ne (Or.inl (w58 hw)) (Or.inl (w88 hw)) (by decide) (t := .byte) (t' := .int) (by decide) (by decide)))).other R16 (Or.inl (Exa.neArv c13 c15 (w42 hw))))
  exact o_retA W16 hlk (v := (.ref a1)) hret rfl rfl (hb hy d20_76) (by decide) (by decide) ⟨c18, c19, V16, c20, rfl⟩
theorem rm24 (l : Launch) {Z a0} (hw : HW Z a0) (gCS : Int32) (a1 a2 : Addr) (z0 : ClassId) (x1 x2 : Int32) (h0 : Heap) (O0 : Old Z Z.heap.size h0) (z1 : Fld Z h0 a1 s1 "count" "I" (.int 2)) (z2 : Exa Z h0 a1 s2) (z3 : Fld Z h0 a1 s1 "value" "[B" (.ref a2)) (z4 : Arv Z h0 a2 z0 .byte 16 [(.int x1), (.int x2), iZ, iZ, iZ, iZ, iZ, iZ, iZ, iZ, iZ, iZ, iZ, iZ, iZ, iZ] iZ) (z5 : Fld Z h0 a1 s1 "coder" "B" iZ) (SgCS : Sta Z Z.heap s0 s3 "Z" (.int gCS)) (NgCS : ¬ (gCS = (0 : Int32))) (z6 : Z.heap.size ≤ a1) (z7 : Z.heap.size ≤ a2) :
    CtrN l Z mn16 jdk_67_method_14_code 2 (some (.object s2)) [] (⟨2, 0, 0, 27⟩ : Room) #[(.ref a1), (.int 62)] h0 [a2, a1] (fun v h => Fld Z h a1 s1 "count" "I" (.int 3) ∧ Fld Z h a1 s1 "value" "[B" (.ref a2) ∧ Arv Z h a2 z0 .byte 16 [(.int x1), (.int x2), (.int 62), iZ, iZ, iZ, iZ, iZ, iZ, iZ, iZ, iZ, iZ, iZ, iZ, iZ] iZ ∧ Fld Z h a1 s1 "coder" "B" iZ ∧ v = some (.ref a1)) := by
  refine CtrN.intro (L0 := #[vr a1, vi 62]) (plainFor_of_name pn2) O0 (own_entry rfl) ?_
  intro p e s m below meth c T0 hy hml hret hlk hnm W0
  refine o_aloadN W0 1 (hb hy d19_0) rfl rfl rfl <| o_iloadN W0 2 (hb hy d19_1) rfl rfl ?_
  refine o_superC W0 (by decide) (w119 hw) (w120 hw) (own_sameN (y := mn15) (y2 := mn7) (by decide) (w120 hw) rfl (w90 hw) (w92 hw)) (w74 hw) (w122 hw) (Ins.self z2) (w51 hw) (rm23 l hw gCS a1 a2 z0 x1 x2 h0 W0.old z1 z2 z3 z4 z5 SgCS NgCS z6 z7) 0 0 0 (by decide) (by rw [hml]; rfl) (lenOf pd13 rfl) [] rfl rfl 5 (hb hy d19_2) rfl rfl rfl (allS ⟨z6, (Or.inl (List.mem_of_getElem? (i := 1) rfl))⟩ (allS ⟨z7, m0⟩ all0)) tri ?_
  intro v1 T1 h1 lo1 W1 K1 q1
  obtain ⟨P1_0, P1_1, P1_2, P1_3, rfl⟩ := q1.2.2
  show Gl _ _ _ _ _ _ _ _ [(.ref a1)]
  refine o_pop W1 6 (hb hy d19_5) rfl rfl <| o_aloadN W1 7 (hb hy d19_6) rfl rfl rfl ?_
  have c2 := (z2.keep K1)
  exact o_retA W1 hlk (v := (.ref a1)) hret rfl rfl (hb hy d19_7) (by decide) (by decide) ⟨P1_0, P1_1, P1_2, P1_3, rfl⟩
theorem rm25 (l : Launch) {Z a0} (hw : HW Z a0) (gCS : Int32) (a1 a2 a3 a4 : Addr) (z0 : ClassId) (a5 : Addr) (z1 : ClassId) (h0 : Heap) (O0 : Old Z Z.heap.size h0) (z2 : Fld Z h0 a1 s4 "out" s5 (.ref a3)) (z3 : Exa Z h0 a3 s2) (SgCS : Sta Z Z.heap s0 s3 "Z" (.int gCS)) (NgCS : ¬ (gCS = (0 : Int32))) (z4 : Fld Z h0 a3 s1 "count" "I" iZ) (z5 : Fld Z h0 a3 s1 "value" "[B" (.ref a4)) (z6 : Arv Z h0 a4 z0 .byte 16 [iZ, iZ, iZ, iZ, iZ, iZ, iZ, iZ, iZ, iZ, iZ, iZ, iZ, iZ, iZ, iZ] iZ) (z7 : Fld Z h0 a3 s1 "coder" "B" iZ) (z8 : Z.heap.size ≤ a4) (z9 : Z.heap.size ≤ a3) (z10 : Exa Z h0 a2 s0) (z11 : Fld Z h0 a2 s0 "value" "[B" (.ref a5)) (z12 : Arv Z h0 a5 z1 .byte 0 [] iZ) (z13 : a4 ≠ a5) (z14 : Fld Z h0 a2 s0 "coder" "B" iZ) :
    CtrW l Z consts_1 mn17 prog_5_method_3_code 2 (some (.object s4)) [] (⟨5, 2, 12, 83⟩ : Room) #[(.ref a1), (.ref a2)] h0 [a4, a3] (fun v h => Fld Z h a3 s1 "count" "I" (.int 3) ∧ Fld Z h a3 s1 "value" "[B" (.ref a4) ∧ Arv Z h a4 z0 .byte 16 [(.int (b8 60)), (.int (b8 47)), (.int 62), iZ, iZ, iZ, iZ, iZ, iZ, iZ, iZ, iZ, iZ, iZ, iZ, iZ] iZ ∧ Fld Z h a3 s1 "coder" "B" iZ ∧ v = some (.ref a1)) := by
  refine CtrW.intro (L0 := #[vr a1, vr a2]) (plainFor_of_name pn3) O0 (own_entry rfl) ?_
  intro p e s m below meth c T0 V0 hy hml hret hlk hnm W0
  refine o_aloadN W0 1 (hb hy d10_0) rfl rfl rfl ?_
  refine o_getF W0 (w59 hw) Via.refl z2 4 (hb hy d10_1) rfl ?_
  intro T1 W1
  refine o_ldcR W1 (w66 hw) (own_wS hw) (own_EL hw) (by simp [consts_1]) 6 (hb hy d10_4) rfl (n := 8) (by decide) (by decide) (cells' := 2) (slots' := 12) rfl rfl (by decide) (by decide) (vs := [(.int (b8 60)), (.int (b8 47))]) (z := (2 : Int32)) ⟨by decide, by decide⟩ (by decide) (by decide) ?_
  intro s2 T2 h2 V2 t2 k2 W2 E2 C2 X2 Fc2 Fv2 A2 ns2
  have c3 := (z3.ext E2)
  have c4 := (z4.ext E2)
  have c5 := (z5.ext E2)
  have c6 := (z6.ext E2)
  have c7 := (z7.ext E2)
  refine o_virtualC W2 (w67 hw) (w68 hw) (o_nf W2 rfl (w70 hw)) (w70 hw) (w69 hw) (by decide) c3 (w71 hw) (w43 hw) (rm13 l hw gCS a3 s2 t2 k2 a4 z0 h2 W2.old X2 Fv2 A2 SgCS NgCS Fc2 c4 c3 c5 c6 c7 z8 z9) 0 2 12 (by decide) (by rw [hml]; rfl) (lenOf pd10 rfl) [] rfl rfl 9 (hb hy d10_6) rfl rfl rfl (allS ⟨z9, (Or.inl (List.mem_of_getElem? (i := 1) rfl))⟩ (allS ⟨z8, m0⟩ all0)) (fun _ K => IW.keep K (sfS (Safe.exa W2.al c3 (by decide) (by decide)) (sfS (own_safeB W2.2.2.2.1 (n := 16) (by decide) (own_EL16 hw) c6) sf0)) W2.inv) ?_
  intro v8 T8 h8 lo8 W8 K8 q8
  obtain ⟨P8_0, P8_1, P8_2, P8_3, rfl⟩ := q8.2.2
  show Gl _ _ _ _ _ _ _ _ [(.ref a3)]
  refine o_aloadN W8 10 (hb hy d10_9) rfl rfl rfl ?_
  have c9 := ((z10.ext E2).keep K8)
  have c10 := (z10.ext E2)
  have c11 := (c3.keep K8)
  have c12 := ((z11.ext E2).keep K8 (ninS (Exa.ne c10 c3 (by decide)) (ninS (Exa.neArv c10 c6 (w2 hw)) nin0)))
  have c13 := (z12.ext E2)
  have c14 := ((z12.ext E2).keep K8 (ninS (Ne.symm (Exa.neArv c3 c13 (w42 hw))) (ninS (Ne.symm z13) nin0)))
  have c15 := ((z14.ext E2).keep K8 (ninS (Exa.ne c10 c3 (by decide)) (ninS (Exa.neArv c10 c6 (w2 hw)) nin0)))
  refine o_virtualC W8 (w67 hw) (w68 hw) (o_nf W8 rfl (w70 hw)) (w70 hw) (w69 hw) (by decide) c11 (w71 hw) (w43 hw) (rm19 l hw gCS a3 a2 a5 z1 a4 z0 (b8 60) (b8 47) h8 W8.old c9 c12 c14 SgCS NgCS c15 P8_0 c11 P8_1 P8_2 P8_3 z8 z9) 0 2 12 (by decide) (by rw [hml]; rfl) (lenOf pd10 rfl) [] rfl rfl 13 (hb hy d10_10) rfl rfl rfl (allS ⟨z9, (Or.inl (List.mem_of_getElem? (i := 1) rfl))⟩ (allS ⟨z8, m0⟩ all0)) (fun _ K => IW.keep K (sfS (Safe.exa W8.al c11 (by decide) (by decide)) (sfS (own_safeB W8.2.2.2.1 (n := 16) (by decide) (own_EL16 hw) P8_2) sf0)) W8.inv) ?_
  intro v16 T16 h16 lo16 W16 K16 q16
  obtain ⟨P16_0, P16_1, P16_2, P16_3, rfl⟩ := q16.2.2
  show Gl _ _ _ _ _ _ _ _ [(.ref a3)]
  refine o_bipush W16 (v := 62) 15 (hb hy d10_13) (by decide) rfl ?_
  have c17 := (c11.keep K16)
  refine o_virtualC W16 (w114 hw) (w115 hw) (o_nf W16 rfl (w117 hw)) (w117 hw) (w116 hw) (by decide) c17 (w118 hw) (w43 hw) (rm24 l hw gCS a3 a4 z0 (b8 60) (b8 47) h16 W16.old P16_0 c17 P16_1 P16_2 P16_3 SgCS NgCS z9 z8) 0 2 12 (by decide) (by rw [hml]; rfl) (lenOf pd14 rfl) [] rfl rfl 18 (hb hy d10_15) rfl rfl rfl (allS ⟨z8, m0⟩ (allS ⟨z9, (Or.inl (List.mem_of_getElem? (i := 1) rfl))⟩ all0)) (fun _ K => IW.keep K (sfS (own_safeB W16.2.2.2.1 (n := 16) (by decide) (own_EL16 hw) P16_2) (sfS (Safe.exa W16.al c17 (by decide) (by decide)) sf0)) W16.inv) ?_
  intro v18 T18 h18 lo18 W18 K18 q18
  obtain ⟨P18_0, P18_1, P18_2, P18_3, rfl⟩ := q18.2.2
  show Gl _ _ _ _ _ _ _ _ [(.ref a3)]
  refine o_pop W18 19 (hb hy d10_18) rfl rfl <| o_aloadN W18 20 (hb hy d10_19) rfl rfl rfl ?_
  have c19 := (c17.keep K18)
  exact o_retAW W18 (own_EL hw) hlk (v := (.ref a1)) hret rfl rfl (hb hy d10_20) (by decide) (by decide) ⟨P18_0, P18_1, P18_2, P18_3, rfl⟩
theorem rm26 (l : Launch) {Z a0} (hw : HW Z a0) (a1 a2 : Addr) (h0 : Heap) (O0 : Old Z Z.heap.size h0) (z0 : Fld Z h0 a1 s1 "value" "[B" (.ref a2)) :
    CtrN l Z mn18 jdk_68_method_64_code 1 (some (.array .byte)) [] (⟨0, 0, 0, 0⟩ : Room) #[(.ref a1)] h0 [] (fun v h => v = some (.ref a2)) := by
  refine CtrN.intro (L0 := #[vr a1]) (plainFor_of_name pn1) O0 (own_entry rfl) ?_
  intro p e s m below meth c T0 hy hml hret hlk hnm W0
  refine o_aloadN W0 1 (hb hy d27_0) rfl rfl rfl ?_
  refine o_getF W0 (w55 hw) Via.refl z0 4 (hb hy d27_1) rfl ?_
  intro T1 W1
  exact o_retA W1 hlk (v := (.ref a2)) hret rfl rfl (hb hy d27_4) (by decide) (by decide) rfl
theorem rm27 (l : Launch) {Z a0} (hw : HW Z a0) (a1 : Addr) (h0 : Heap) (O0 : Old Z Z.heap.size h0) (z0 : Fld Z h0 a1 s1 "count" "I" (.int 3)) :
    CtrN l Z mn19 jdk_68_method_6_code 1 (some .int) [] (⟨0, 0, 0, 0⟩ : Room) #[(.ref a1)] h0 [] (fun v h => v = some (.int 3)) := by
  refine CtrN.intro (L0 := #[vr a1]) (plainFor_of_name pn1) O0 (own_entry rfl) ?_
  intro p e s m below meth c T0 hy hml hret hlk hnm W0
  refine o_aloadN W0 1 (hb hy d29_0) rfl rfl rfl ?_
  refine o_getF W0 (w87 hw) Via.refl z0 4 (hb hy d29_1) rfl ?_
  intro T1 W1
  exact o_retI W1 hlk hret (hb hy d29_4) (by decide) (by decide) rfl
theorem rm28 (l : Launch) {Z a0} (hw : HW Z a0) (a1 : Addr) (h0 : Heap) (O0 : Old Z Z.heap.size h0) (z0 : Fld Z h0 a1 s1 "count" "I" (.int 3)) (z1 : Exa Z h0 a1 s2) :
    CtrN l Z mn20 jdk_67_method_93_code 1 (some .int) [] (⟨1, 0, 0, 12⟩ : Room) #[(.ref a1)] h0 [] (fun v h => v = some (.int 3)) := by
  refine CtrN.intro (L0 := #[vr a1]) (plainFor_of_name pn2) O0 (own_entry rfl) ?_
  intro p e s m below meth c T0 hy hml hret hlk hnm W0
  refine o_aloadN W0 1 (hb hy d28_0) rfl rfl rfl ?_
  refine o_superC W0 (by decide) (w160 hw) (w156 hw) (own_sameN (y := mn19) (y2 := mn7) (by decide) (w156 hw) rfl (w90 hw) (w92 hw)) (w74 hw) (w161 hw) (Ins.self z1) (w51 hw) (rm27 l hw a1 h0 W0.old z0) 0 0 0 (by decide) (by rw [hml]; rfl) (lenOf pd5 rfl) [] rfl rfl 4 (hb hy d28_1) rfl rfl rfl all0 tri ?_
  intro v1 T1 h1 lo1 W1 K1 q1
  obtain rfl := q1.2.2
  show Gl _ _ _ _ _ _ _ _ [(.int 3)]
  exact o_retI W1 hlk hret (hb hy d28_4) (by decide) (by decide) rfl
theorem rm29 (l : Launch) {Z a0} (hw : HW Z a0)  (h0 : Heap) (O0 : Old Z Z.heap.size h0) :
    CtrN l Z mn21 jdk_65_method_131_code 2 none [] (⟨0, 0, 0, 0⟩ : Room) #[iZ, (.int 3)] h0 [] (fun v h => v = none) := by
  refine CtrN.intro (L0 := #[vi 0, vi 3]) (plainFor_of_name pn5) O0 (own_entry rfl) ?_
  intro p e s m below meth c T0 hy hml hret hlk hnm W0
  refine o_iloadN W0 1 (hb hy d32_0) rfl rfl <| o_iloadN W0 2 (hb hy d32_1) rfl rfl <| o_icmpY W0 37 (hb hy d32_2) (XT.ii_ge_t (by decide)) (by decide) rfl ?_
  exact o_ret0 W0 hlk hret (hb hy d32_37) (by decide) (by decide) rfl
theorem rm30 (l : Launch) {Z a0} (hw : HW Z a0)  (h0 : Heap) (O0 : Old Z Z.heap.size h0) :
    CtrN l Z mn22 jdk_29_method_69_code 2 (some .int) [] (⟨0, 0, 0, 0⟩ : Room) #[(.int 16), (.int 3)] h0 [] (fun v h => v = some (.int 3)) := by
  refine CtrN.intro (L0 := #[vi 16, vi 3]) (Jvm.Free.JP.mathPlain rfl (by decide +kernel)) O0 (own_entry rfl) ?_
  intro p e s m below meth c T0 hy hml hret hlk hnm W0
  refine o_iloadN W0 1 (hb hy d33_0) rfl rfl <| o_iloadN W0 2 (hb hy d33_1) rfl rfl <| o_icmpY W0 9 (hb hy d33_2) (XT.ii_gt_t (by decide)) (by decide) rfl <| o_iloadN W0 10 (hb hy d33_9) rfl rfl ?_
  exact o_retI W0 hlk hret (hb hy d33_10) (by decide) (by decide) rfl
theorem rm31 (l : Launch) {Z a0} (hw : HW Z a0) (a1 : Addr) (z0 : ClassId) (x1 x2 : Int32) (h0 : Heap) (O0 : Old Z Z.heap.size h0) (z1 : Arv Z h0 a1 z0 .byte 16 [(.int x1), (.int x2), (.int 62), iZ, iZ, iZ, iZ, iZ, iZ, iZ, iZ, iZ, iZ, iZ, iZ, iZ] iZ) :
    CtrN l Z mn23 jdk_65_method_133_code 5 (some (.array .byte)) [] (⟨1, 1, 3, 27⟩ : Room) #[(.ref a1), iZ, (.int 3)] h0 [] (fun v h => ∃ r1 : Addr, ∃ r2 : ClassId, h0.size ≤ r1 ∧ Arv Z h r1 r2 .byte 3 [(.int x1), (.int x2), (.int 62)] iZ ∧ v = some (.ref r1)) := by
  refine CtrN.intro (L0 := #[vr a1, vi 0, vi 3, un, un]) (plainFor_of_name pn5) O0 (own_entry rfl) ?_
  intro p e s m below meth c T0 hy hml hret hlk hnm W0
  refine o_iloadN W0 1 (hb hy d31_0) rfl rfl <| o_iloadN W0 2 (hb hy d31_1) rfl rfl ?_
  refine o_staticC W0 (w170 hw) (w171 hw) (w165 hw) (w172 hw) (by decide) (rm29 l hw  h0 W0.old ) 0 0 0 (by decide) (by rw [hml]; rfl) (lenOf pd17 rfl) [] rfl rfl 5 (hb hy d31_2) rfl rfl rfl all0 tri ?_
  intro v1 T1 h1 lo1 W1 K1 q1
  obtain rfl := q1.2.2
  show Gl _ _ _ _ _ _ _ _ []
  refine o_iloadN W1 6 (hb hy d31_5) rfl rfl <| o_iloadN W1 7 (hb hy d31_6) rfl rfl <| o_isub W1 (v := 3) 8 (hb hy d31_7) (by decide) rfl <| o_istoreN W1 (L' := #[vr a1, vi 0, vi 3, vi 3, un]) 9 (hb hy d31_8) rfl rfl <| o_iloadN W1 10 (hb hy d31_9) rfl rfl ?_
  refine o_newP W1 (aty := .byte) (w15 hw) tri (by decide) (cap := 3) (by decide) (by decide) 12 (hb hy d31_10) rfl (cells' := 1) (slots' := 3) rfl rfl (by decide) (by decide) (vs := [iZ, iZ, iZ]) (dv := iZ) rfl rfl ?_
  intro b2 T2 h2 k2 W2 E2 ge2 gz2 gb2 V2
  refine o_astore W2 (L' := #[vr a1, vi 0, vi 3, vi 3, vr b2]) 14 (hb hy d31_12) rfl rfl rfl <| o_aloadN W2 15 (hb hy d31_14) rfl rfl rfl <| o_iloadN W2 16 (hb hy d31_15) rfl rfl <| o_aload W2 18 (hb hy d31_16) rfl rfl rfl <| o_iconst W2 (v := 0) 19 (hb hy d31_18) rfl rfl <| o_aloadN W2 20 (hb hy d31_19) rfl rfl rfl ?_
  have c3 := ((z1.keep K1 nin0).ext E2)
  refine o_len W2 c3 21 (hb hy d31_20) rfl <| o_iloadN W2 22 (hb hy d31_21) rfl rfl <| o_isub W2 (v := 16) 23 (hb hy d31_22) (by decide) rfl <| o_iloadN W2 24 (hb hy d31_23) rfl rfl ?_
  refine o_staticC W2 (w173 hw) (w174 hw) (w175 hw) (w176 hw) (by decide) (rm30 l hw  h2 W2.old ) 4 1 3 (by decide) (by rw [hml]; rfl) (lenOf pd18 rfl) [iZ, (.ref b2), iZ, (.ref a1)] rfl rfl 27 (hb hy d31_24) rfl rfl rfl all0 tri ?_
  intro v4 T4 h4 lo4 W4 K4 q4
  obtain rfl := q4.2.2
  show Gl _ _ _ _ _ _ _ _ [(.int 3), iZ, (.ref b2), iZ, (.ref a1)]
  have c5 := (c3.keep K4 nin0)
  have c6 := (V2.keep K4 nin0)
  refine o_copy W4 (w177 hw) (w113 hw) (w111 hw) (w112 hw) c5 c6 (us := [(.int x1), (.int x2), (.int 62)]) (Or.inl ⟨rfl, rfl⟩) (by decide) (by decide) (by decide) (by decide) (by decide) rfl (Nat.le_of_ble_eq_true rfl) (vd' := [(.int x1), (.int x2), (.int 62)]) rfl gz2 (Or.inr gb2) tri (by rw [hml]; rfl) 30 (hb hy d31_27) rfl (by decide) 0 (by exact Nat.le_of_eq rfl) (by decide) ?_
  intro T7 h7 lo7 W7 K7 V7
  refine o_aload W7 32 (hb hy d31_30) rfl rfl rfl ?_
  exact o_retA W7 hlk (v := (.ref b2)) hret rfl rfl (hb hy d31_32) (by decide) (by decide) ⟨b2, k2, gb2, V7, rfl⟩
theorem rm32 (l : Launch) {Z a0} (hw : HW Z a0) (a1 : Addr) (z0 : ClassId) (x1 x2 : Int32) (h0 : Heap) (O0 : Old Z Z.heap.size h0) (z1 : Arv Z h0 a1 z0 .byte 16 [(.int x1), (.int x2), (.int 62), iZ, iZ, iZ, iZ, iZ, iZ, iZ, iZ, iZ, iZ, iZ, iZ, iZ] iZ) :
    CtrN l Z mn24 jdk_65_method_132_code 3 (some (.array .byte)) [] (⟨2, 1, 3, 43⟩ : Room) #[(.ref a1), iZ, (.int 3)] h0 [] (fun v h => ∃ r1 : Addr, ∃ r2 : ClassId, h0.size ≤ r1 ∧ Arv Z h r1 r2 .byte 3 [(.int x1), (.int x2), (.int 62)] iZ ∧ v = some (.ref r1)) := by
  refine CtrN.intro (L0 := #[vr a1, vi 0, vi 3]) (plainFor_of_name pn5) O0 (own_entry rfl) ?_
  intro p e s m below meth c T0 hy hml hret hlk hnm W0
  refine o_iloadN W0 1 (hb hy d30_0) rfl rfl <| o_ifN W0 4 (hb hy d30_1) (XT.i0_ne_f (by decide)) rfl <| o_iloadN W0 5 (hb hy d30_4) rfl rfl <| o_aloadN W0 6 (hb hy d30_5) rfl rfl rfl <| o_len W0 z1 7 (hb hy d30_6) rfl <| o_icmpN W0 10 (hb hy d30_7) (XT.ii_eq_f (by decide)) rfl ?_
  refine o_aloadN W0 11 (hb hy d30_10) rfl rfl rfl <| o_iloadN W0 12 (hb hy d30_11) rfl rfl <| o_iloadN W0 13 (hb hy d30_12) rfl rfl ?_
  refine o_staticC W0 (w167 hw) (w168 hw) (w165 hw) (w169 hw) (by decide) (rm31 l hw a1 z0 x1 x2 h0 W0.old z1) 0 1 3 (by decide) (by rw [hml]; rfl) (lenOf pd19 rfl) [] rfl rfl 16 (hb hy d30_13) rfl rfl rfl all0 tri ?_
  intro v1 T1 h1 lo1 W1 K1 q1
  obtain ⟨r1_1, r2_1, P1_0, P1_1, rfl⟩ := q1.2.2
  show Gl _ _ _ _ _ _ _ _ [(.ref r1_1)]
  exact o_retA W1 hlk (v := (.ref r1_1)) hret rfl rfl (hb hy d30_16) (by decide) (by decide) ⟨r1_1, r2_1, (Nat.le_trans W0.keep.1 P1_0), P1_1, rfl⟩
theorem rm33 (l : Launch) {Z a0} (hw : HW Z a0) (gCS : Int32) (a1 a2 a3 : Addr) (z0 : ClassId) (x1 x2 : Int32) (h0 : Heap) (O0 : Old Z Z.heap.size h0) (z1 : Exa Z h0 a2 s2) (z2 : Fld Z h0 a2 s1 "value" "[B" (.ref a3)) (z3 : Fld Z h0 a2 s1 "count" "I" (.int 3)) (SgCS : Sta Z Z.heap s0 s3 "Z" (.int gCS)) (NgCS : ¬ (gCS = (0 : Int32))) (z4 : Fld Z h0 a2 s1 "coder" "B" iZ) (z5 : Exa Z h0 a1 s0) (z6 : Fld Z h0 a1 s0 "coder" "B" iZ) (z7 : Z.heap.size ≤ a1) (z8 : Arv Z h0 a3 z0 .byte 16 [(.int x1), (.int x2), (.int 62), iZ, iZ, iZ, iZ, iZ, iZ, iZ, iZ, iZ, iZ, iZ, iZ, iZ] iZ) (z9 : Fld Z h0 a1 s0 "value" "[B" .null) :
    CtrN l Z mn25 jdk_42_method_150_code 5 none [] (⟨3, 1, 3, 58⟩ : Room) #[(.ref a1), (.ref a2), .null] h0 [a1] (fun v h => ∃ r1 : Addr, ∃ r2 : ClassId, h0.size ≤ r1 ∧ Fld Z h a1 s0 "coder" "B" iZ ∧ Fld Z h a1 s0 "value" "[B" (.ref r1) ∧ Arv Z h r1 r2 .byte 3 [(.int x1), (.int x2), (.int 62)] iZ ∧ v = none) := by
  refine CtrN.intro (L0 := #[vr a1, vr a2, .val .null, un, un]) (plainFor_of_name pn0) O0 (own_entry rfl) ?_
  intro p e s m below meth c T0 hy hml hret hlk hnm W0
  refine o_aloadN W0 1 (hb hy d26_0) rfl rfl rfl ?_
  refine o_initO W0 (w11 hw) (w12 hw) (w13 hw) (by rw [hml]; rfl) 4 (hb hy d26_1) rfl (by decide) 0 (by exact Nat.le_of_eq rfl) (by decide) ?_
  intro T1 W1
  refine o_aloadN W1 5 (hb hy d26_4) rfl rfl rfl ?_
  refine o_virtualC W1 (w149 hw) (w150 hw) (o_nf W1 rfl (w152 hw)) (w152 hw) (w151 hw) (by decide) z1 (w153 hw) (w51 hw) (rm26 l hw a2 a3 h0 W1.old z2) 0 0 0 (by decide) (by rw [hml]; rfl) (lenOf pd16 rfl) [] rfl rfl 8 (hb hy d26_5) rfl rfl rfl all0 tri ?_
  intro v2 T2 h2 lo2 W2 K2 q2
  obtain rfl := q2.2.2
  show Gl _ _ _ _ _ _ _ _ [(.ref a3)]
  refine o_astoreN W2 (L' := #[vr a1, vr a2, .val .null, vr a3, un]) 9 (hb hy d26_8) rfl rfl rfl <| o_aloadN W2 10 (hb hy d26_9) rfl rfl rfl ?_
  have c3 := (z3.keep K2 nin0)
  have c4 := (z1.keep K2)
  refine o_virtualC W2 (w154 hw) (w155 hw) (o_nf2 W2 (y2 := mn7) rfl (w90 hw) (w92 hw)) (w157 hw) (w158 hw) (by decide) c4 (w159 hw) (w43 hw) (rm28 l hw a2 h2 W2.old c3 c4) 0 0 0 (by decide) (by rw [hml]; rfl) (lenOf pd5 rfl) [] rfl rfl 13 (hb hy d26_10) rfl rfl rfl all0 tri ?_
  intro v5 T5 h5 lo5 W5 K5 q5
  obtain rfl := q5.2.2
  show Gl _ _ _ _ _ _ _ _ [(.int 3)]
  refine o_istore W5 (L' := #[vr a1, vr a2, .val .null, vr a3, vi 3]) 15 (hb hy d26_13) rfl rfl <| o_aloadN W5 16 (hb hy d26_15) rfl rfl rfl ?_
  have c6 := ((z4.keep K2 nin0).keep K5 nin0)
  have c7 := (c4.keep K5)
  refine o_virtualC W5 (w162 hw) (w124 hw) (o_nf W5 rfl (w126 hw)) (w126 hw) (w125 hw) (by decide) c7 (w127 hw) (w51 hw) (rm21 l hw gCS a2 h5 W5.old SgCS NgCS c6) 0 0 0 (by decide) (by rw [hml]; rfl) (lenOf pd11 rfl) [] rfl rfl 19 (hb hy d26_16) rfl rfl rfl all0 tri ?_
  intro v8 T8 h8 lo8 W8 K8 q8
  obtain rfl := q8.2.2
  show Gl _ _ _ _ _ _ _ _ [(.int 1)]
  refine o_ifN W8 22 (hb hy d26_19) (XT.i0_eq_f (by decide)) rfl <| o_aloadN W8 23 (hb hy d26_22) rfl rfl rfl <| o_iconst W8 (v := 0) 24 (hb hy d26_23) rfl rfl ?_
  have c9 := (((z5.keep K2).keep K5).keep K8)
  have c10 := (((z6.keep K2 nin0).keep K5 nin0).keep K8 nin0)
  refine o_putF W8 (w21 hw) Via.refl c10 c9 (Or.inr ⟨(w17 hw), rfl, hnm⟩) (w2 hw) (ty := .byte) (v' := iZ) (by decide) rfl (by decide) z7 m0 tri 27 (hb hy d26_24) rfl ?_
  intro T11 h11 lo11 W11 R11
  have F11 := c10.same R11
  refine o_aloadN W11 28 (hb hy d26_27) rfl rfl rfl <| o_aloadN W11 29 (hb hy d26_28) rfl rfl rfl <| o_iconst W11 (v := 0) 30 (hb hy d26_29) rfl rfl <| o_iload W11 32 (hb hy d26_30) rfl rfl ?_
  have c12 := (c9.wr R11)
  have c13 := (((z8.keep K2 nin0).keep K5 nin0).keep K8 nin0)
  have c14 := ((((z8.keep K2 nin0).keep K5 nin0).keep K8 nin0).other R11 (Ne.symm (Exa.neArv c9 c13 (w2 hw))))
  refine o_staticC W11 (w163 hw) (w164 hw) (w165 hw) (w166 hw) (by decide) (rm32 l hw a3 z0 x1 x2 h11 W11.old c14) 1 1 3 (by decide) (by rw [hml]; rfl) (lenOf pd19 rfl) [(.ref a1)] rfl rfl 35 (hb hy d26_32) rfl rfl rfl all0 tri ?_
  intro v15 T15 h15 lo15 W15 K15 q15
  obtain ⟨r1_15, r2_15, P15_0, P15_1, rfl⟩ := q15.2.2
  show Gl _ _ _ _ _ _ _ _ [(.ref r1_15), (.ref a1)]
  have c16 := (c12.keep K15)
  have c17 := (((((z9.keep K2 nin0).keep K5 nin0).keep K8 nin0).other R11 (Or.inr (slot_ne (Or.inr (w16 hw)) (Or.inr (w17 hw)) (by decide) (t := (.array .byte)) (t' := .byte) (by decide) (by decide)))).keep K15 nin0)
  refine o_putF W15 (w20 hw) Via.refl c17 c16 (Or.inr ⟨(w16 hw), rfl, hnm⟩) (w2 hw) (ty := (.array .byte)) (v' := (.ref r1_15)) (by decide) rfl rfl z7 m0 tri 38 (hb hy d26_35) rfl ?_
  intro T18 h18 lo18 W18 R18
  have F18 := c17.same R18
  refine o_goto W18 97 (hb hy d26_38) (by decide) rfl ?_
  have c19 := ((F11.keep K15 nin0).other R18 (Or.inr (slot_ne (Or.inr (w17 hw)) (Or.inr (w16 hw)) (by decide) (t := .byte) (t' := (.array .byte)) (by decide) (by decide))))
  have c20 := (c16.wr R18)
  have c21 := (P15_1.other R18 (own_ne' c12.lt P15_0))
  exact o_ret0 W18 hlk hret (hb hy d26_97) (by decide) (by decide) ⟨r1_15, r2_15, (Nat.le_trans W11.keep.1 P15_0), c19, F18, c21, rfl⟩
theorem rm34 (l : Launch) {Z a0} (hw : HW Z a0) (gCS : Int32) (a1 a2 a3 : Addr) (z0 : ClassId) (x1 x2 : Int32) (h0 : Heap) (O0 : Old Z Z.heap.size h0) (z1 : Exa Z h0 a2 s2) (z2 : Fld Z h0 a2 s1 "value" "[B" (.ref a3)) (z3 : Fld Z h0 a2 s1 "count" "I" (.int 3)) (SgCS : Sta Z Z.heap s0 s3 "Z" (.int gCS)) (NgCS : ¬ (gCS = (0 : Int32))) (z4 : Fld Z h0 a2 s1 "coder" "B" iZ) (z5 : Exa Z h0 a1 s0) (z6 : Fld Z h0 a1 s0 "coder" "B" iZ) (z7 : Arv Z h0 a3 z0 .byte 16 [(.int x1), (.int x2), (.int 62), iZ, iZ, iZ, iZ, iZ, iZ, iZ, iZ, iZ, iZ, iZ, iZ, iZ] iZ) (z8 : Fld Z h0 a1 s0 "value" "[B" .null) (z9 : Z.heap.size ≤ a1) :
    CtrN l Z mn26 jdk_42_method_53_code 2 none [] (⟨4, 1, 3, 74⟩ : Room) #[(.ref a1), (.ref a2)] h0 [a1] (fun v h => ∃ r1 : Addr, ∃ r2 : ClassId, h0.size ≤ r1 ∧ Fld Z h a1 s0 "coder" "B" iZ ∧ Fld Z h a1 s0 "value" "[B" (.ref r1) ∧ Arv Z h r1 r2 .byte 3 [(.int x1), (.int x2), (.int 62)] iZ ∧ v = none) := by
  refine CtrN.intro (L0 := #[vr a1, vr a2]) (plainFor_of_name pn0) O0 (own_entry rfl) ?_
  intro p e s m below meth c T0 hy hml hret hlk hnm W0
  refine o_aloadN W0 1 (hb hy d25_0) rfl rfl rfl <| o_aloadN W0 2 (hb hy d25_1) rfl rfl rfl ?_
  refine o_aconstNull W0 3 (hb hy d25_2) rfl ?_
  refine o_specialC W0 rfl (w146 hw) (w147 hw) (w148 hw) (by decide) (w3 hw) (rm33 l hw gCS a1 a2 a3 z0 x1 x2 h0 W0.old z1 z2 z3 SgCS NgCS z4 z5 z6 z9 z7 z8) 0 1 3 (by decide) (by rw [hml]; rfl) (lenOf pd20 rfl) [] rfl rfl 6 (hb hy d25_3) rfl rfl rfl (allS ⟨z9, m0⟩ all0) tri ?_
  intro v1 T1 h1 lo1 W1 K1 q1
  obtain ⟨r1_1, r2_1, P1_0, P1_1, P1_2, P1_3, rfl⟩ := q1.2.2
  show Gl _ _ _ _ _ _ _ _ []
  have c2 := (z5.keep K1)
  exact o_ret0 W1 hlk hret (hb hy d25_6) (by decide) (by decide) ⟨r1_1, r2_1, (Nat.le_trans W0.keep.1 P1_0), P1_1, P1_2, P1_3, rfl⟩
theorem rm35 (l : Launch) {Z a0} (hw : HW Z a0) (gCS : Int32) (a1 a2 : Addr) (z0 : ClassId) (x1 x2 : Int32) (h0 : Heap) (O0 : Old Z Z.heap.size h0) (z1 : Exa Z h0 a1 s2) (z2 : Fld Z h0 a1 s1 "value" "[B" (.ref a2)) (z3 : Fld Z h0 a1 s1 "count" "I" (.int 3)) (SgCS : Sta Z Z.heap s0 s3 "Z" (.int gCS)) (NgCS : ¬ (gCS = (0 : Int32))) (z4 : Fld Z h0 a1 s1 "coder" "B" iZ) (z5 : Arv Z h0 a2 z0 .byte 16 [(.int x1), (.int x2), (.int 62), iZ, iZ, iZ, iZ, iZ, iZ, iZ, iZ, iZ, iZ, iZ, iZ, iZ] iZ) :
    CtrN l Z mn27 jdk_67_method_42_code 1 (some (.object s0)) [] (⟨5, 2, 7, 88⟩ : Room) #[(.ref a1)] h0 [] (fun v h => ∃ r1 : Addr, ∃ r2 : Addr, ∃ r3 : ClassId, h0.size ≤ r1 ∧ h0.size ≤ r2 ∧ Exa Z h r1 s0 ∧ Fld Z h r1 s0 "value" "[B" (.ref r2) ∧ Fld Z h r1 s0 "coder" "B" iZ ∧ Arv Z h r2 r3 .byte 3 [(.int x1), (.int x2), (.int 62)] iZ ∧ v = some (.ref r1)) := by
  refine CtrN.intro (L0 := #[vr a1]) (plainFor_of_name pn2) O0 (own_entry rfl) ?_
  intro p e s m below meth c T0 hy hml hret hlk hnm W0
  refine o_new W0 (w142 hw) (w2 hw) (w3 hw) tri 3 (hb hy d24_0) rfl (cells' := 1) (slots' := 4) rfl rfl (by decide) (by decide) ?_
  intro b1 T1 h1 W1 E1 ge1 gz1 gb1 A1 D1
  have Fb1_value : Fld Z h1 b1 s0 "value" "[B" .null := D1 (Or.inr (w16 hw)) (ty := (.array .byte)) (by decide)
  have Fb1_coder : Fld Z h1 b1 s0 "coder" "B" iZ := D1 (Or.inr (w17 hw)) (ty := .byte) (by decide)
  refine o_dup W1 4 (hb hy d24_3) rfl rfl <| o_aloadN W1 5 (hb hy d24_4) rfl rfl rfl ?_
  have c2 := (z1.ext E1)
  have c3 := (z2.ext E1)
  have c4 := (z3.ext E1)
  have c5 := (z4.ext E1)
  have c6 := (z5.ext E1)
  refine o_specialC W1 rfl (w143 hw) (w144 hw) (w145 hw) (by decide) (w3 hw) (rm34 l hw gCS b1 a1 a2 z0 x1 x2 h1 W1.old c2 c3 c4 SgCS NgCS c5 A1 Fb1_coder c6 Fb1_value gz1) 1 2 7 (by decide) (by rw [hml]; rfl) (lenOf pd21 rfl) [(.ref b1)] rfl rfl 8 (hb hy d24_5) rfl rfl rfl (allS ⟨gz1, (Or.inr gb1)⟩ all0) tri ?_
  intro v7 T7 h7 lo7 W7 K7 q7
  obtain ⟨r1_7, r2_7, P7_0, P7_1, P7_2, P7_3, rfl⟩ := q7.2.2
  show Gl _ _ _ _ _ _ _ _ [(.ref b1)]
  have c8 := (A1.keep K7)
  exact o_retA W7 hlk (v := (.ref b1)) hret rfl rfl (hb hy d24_8) (by decide) (by decide) ⟨b1, r1_7, r2_7, gb1, (Nat.le_trans W1.keep.1 P7_0), c8, P7_2, P7_1, P7_3, rfl⟩
theorem rm36 (l : Launch) {Z a0} (hw : HW Z a0) (gCS : Int32) (a1 a2 a3 : Addr) (z0 : ClassId) (x1 x2 : Int32) (h0 : Heap) (O0 : Old Z Z.heap.size h0) (z1 : Fld Z h0 a1 s4 "out" s5 (.ref a2)) (z2 : Exa Z h0 a2 s2) (z3 : Fld Z h0 a2 s1 "value" "[B" (.ref a3)) (z4 : Fld Z h0 a2 s1 "count" "I" (.int 3)) (SgCS : Sta Z Z.heap s0 s3 "Z" (.int gCS)) (NgCS : ¬ (gCS = (0 : Int32))) (z5 : Fld Z h0 a2 s1 "coder" "B" iZ) (z6 : Arv Z h0 a3 z0 .byte 16 [(.int x1), (.int x2), (.int 62), iZ, iZ, iZ, iZ, iZ, iZ, iZ, iZ, iZ, iZ, iZ, iZ, iZ] iZ) :
    CtrN l Z mn28 prog_5_method_8_code 1 (some (.object s0)) [] (⟨6, 2, 7, 100⟩ : Room) #[(.ref a1)] h0 [] (fun v h => ∃ r1 : Addr, ∃ r2 : Addr, ∃ r3 : ClassId, h0.size ≤ r1 ∧ h0.size ≤ r2 ∧ Exa Z h r1 s0 ∧ Fld Z h r1 s0 "value" "[B" (.ref r2) ∧ Fld Z h r1 s0 "coder" "B" iZ ∧ Arv Z h r2 r3 .byte 3 [(.int x1), (.int x2), (.int 62)] iZ ∧ v = some (.ref r1)) := by
  refine CtrN.intro (L0 := #[vr a1]) (plainFor_of_name pn3) O0 (own_entry rfl) ?_
  intro p e s m below meth c T0 hy hml hret hlk hnm W0
  refine o_aloadN W0 1 (hb hy d23_0) rfl rfl rfl ?_
  refine o_getF W0 (w59 hw) Via.refl z1 4 (hb hy d23_1) rfl ?_
  intro T1 W1
  refine o_virtualC W1 (w137 hw) (w138 hw) (o_nf W1 rfl (w140 hw)) (w140 hw) (w139 hw) (by decide) z2 (w141 hw) (w43 hw) (rm35 l hw gCS a2 a3 z0 x1 x2 h0 W1.old z2 z3 z4 SgCS NgCS z5 z6) 0 2 7 (by decide) (by rw [hml]; rfl) (lenOf pd22 rfl) [] rfl rfl 7 (hb hy d23_4) rfl rfl rfl all0 tri ?_
  intro v2 T2 h2 lo2 W2 K2 q2
  obtain ⟨r1_2, r2_2, r3_2, P2_0, P2_1, P2_2, P2_3, P2_4, P2_5, rfl⟩ := q2.2.2
  show Gl _ _ _ _ _ _ _ _ [(.ref r1_2)]
  exact o_retA W2 hlk (v := (.ref r1_2)) hret rfl rfl (hb hy d23_7) (by decide) (by decide) ⟨r1_2, r2_2, r3_2, (Nat.le_trans W1.keep.1 P2_0), (Nat.le_trans W1.keep.1 P2_1), P2_2, P2_3, P2_4, P2_5, rfl⟩
theorem rm37 (l : Launch) {Z a0} (hw : HW Z a0) (a1 a2 : Addr) (z0 z1 : ClassId) (x1 x2 : Int32) (h0 : Heap) (O0 : Old Z Z.heap.size h0) (z2 : Arv Z h0 a1 z0 .byte 3 [(.int (b8 60)), (.int (b8 47)), (.int (b8 62))] iZ) (z3 : Arv Z h0 a2 z1 .byte 3 [(.int x1), (.int x2), (.int 62)] iZ) (hc1 : (b8 60) = x1) (hc2 : (b8 47) = x2) :
    CtrN l Z mn29 jdk_43_method_13_code 3 (some .boolean) [] (⟨0, 0, 0, 0⟩ : Room) #[(.ref a1), (.ref a2)] h0 [] (fun v h => v = some (.int 1)) := by
  refine CtrN.intro (L0 := #[vr a1, vr a2, un]) (plainFor_of_name pn4) O0 (own_entry rfl) ?_
  intro p e s m below meth c T0 hy hml hret hlk hnm W0
  refine o_aloadN W0 1 (hb hy d35_0) rfl rfl rfl <| o_len W0 z2 2 (hb hy d35_1) rfl <| o_aloadN W0 3 (hb hy d35_2) rfl rfl rfl <| o_len W0 z3 4 (hb hy d35_3) rfl <| o_icmpN W0 7 (hb hy d35_4) (XT.ii_ne_f (by decide)) rfl <| o_iconst W0 (v := 0) 8 (hb hy d35_7) rfl rfl ?_
  refine o_istoreN W0 (L' := #[vr a1, vr a2, vi 0]) 9 (hb hy d35_8) rfl rfl <| o_iloadN W0 10 (hb hy d35_9) rfl rfl <| o_aloadN W0 11 (hb hy d35_10) rfl rfl rfl <| o_len W0 z2 12 (hb hy d35_11) rfl <| o_icmpN W0 15 (hb hy d35_12) (XT.ii_ge_f (by decide)) rfl <| o_aloadN W0 16 (hb hy d35_15) rfl rfl rfl ?_
  refine o_iloadN W0 17 (hb hy d35_16) rfl rfl <| o_baload W0 z2 (x := (b8 60)) (i := 0) (by decide) (by decide) (by decide) rfl 18 (hb hy d35_17) rfl <| o_aloadN W0 19 (hb hy d35_18) rfl rfl rfl <| o_iloadN W0 20 (hb hy d35_19) rfl rfl <| o_baload W0 z3 (x := x1) (i := 0) (by decide) (by decide) (by decide) rfl 21 (hb hy d35_20) rfl <| o_icmpY W0 26 (hb hy d35_21) (XT.ii_eq_t hc1) (by decide) rfl ?_
  refine o_iinc W0 (v := 1) (L' := #[vr a1, vr a2, vi 1]) 29 (hb hy d35_26) rfl (by decide) rfl rfl <| o_goto W0 9 (hb hy d35_29) (by decide) rfl <| o_iloadN W0 10 (hb hy d35_9) rfl rfl <| o_aloadN W0 11 (hb hy d35_10) rfl rfl rfl <| o_len W0 z2 12 (hb hy d35_11) rfl <| o_icmpN W0 15 (hb hy d35_12) (XT.ii_ge_f (by decide)) rfl ?_
  refine o_aloadN W0 16 (hb hy d35_15) rfl rfl rfl <| o_iloadN W0 17 (hb hy d35_16) rfl rfl <| o_baload W0 z2 (x := (b8 47)) (i := 1) (by decide) (by decide) (by decide) rfl 18 (hb hy d35_17) rfl <| o_aloadN W0 19 (hb hy d35_18) rfl rfl rfl <| o_iloadN W0 20 (hb hy d35_19) rfl rfl <| o_baload W0 z3 (x := x2) (i := 1) (by decide) (by decide) (by decide) rfl 21 (hb hy d35_20) rfl ?_
  refine o_icmpY W0 26 (hb hy d35_21) (XT.ii_eq_t hc2) (by decide) rfl <| o_iinc W0 (v := 2) (L' := #[vr a1, vr a2, vi 2]) 29 (hb hy d35_26) rfl (by decide) rfl rfl <| o_goto W0 9 (hb hy d35_29) (by decide) rfl <| o_iloadN W0 10 (hb hy d35_9) rfl rfl <| o_aloadN W0 11 (hb hy d35_10) rfl rfl rfl <| o_len W0 z2 12 (hb hy d35_11) rfl ?_
  refine o_icmpN W0 15 (hb hy d35_12) (XT.ii_ge_f (by decide)) rfl <| o_aloadN W0 16 (hb hy d35_15) rfl rfl rfl <| o_iloadN W0 17 (hb hy d35_16) rfl rfl <| o_baload W0 z2 (x := (b8 62)) (i := 2) (by decide) (by decide) (by decide) rfl 18 (hb hy d35_17) rfl <| o_aloadN W0 19 (hb hy d35_18) rfl rfl rfl <| o_iloadN W0 20 (hb hy d35_19) rfl rfl ?_
  refine o_baload W0 z3 (x := (62 : Int32)) (i := 2) (by decide) (by decide) (by decide) rfl 21 (hb hy d35_20) rfl <| o_icmpY W0 26 (hb hy d35_21) (XT.ii_eq_t (by decide)) (by decide) rfl <| o_iinc W0 (v := 3) (L' := #[vr a1, vr a2, vi 3]) 29 (hb hy d35_26) rfl (by decide) rfl rfl <| o_goto W0 9 (hb hy d35_29) (by decide) rfl <| o_iloadN W0 10 (hb hy d35_9) rfl rfl <| o_aloadN W0 11 (hb hy d35_10) rfl rfl rfl ?_
  refine o_len W0 z2 12 (hb hy d35_11) rfl <| o_icmpY W0 32 (hb hy d35_12) (XT.ii_ge_t (by decide)) (by decide) rfl <| o_iconst W0 (v := 1) 33 (hb hy d35_32) rfl rfl ?_
  exact o_retN W0 hlk (t := .boolean) hret (by simp) (z' := (1 : Int32)) (by decide) (hb hy d35_33) (by decide) (by decide) rfl
theorem rm38 (l : Launch) {Z a0} (hw : HW Z a0) (gCS : Int32) (a1 a2 a3 a4 : Addr) (z0 z1 : ClassId) (x1 x2 : Int32) (h0 : Heap) (O0 : Old Z Z.heap.size h0) (z2 : Exa Z h0 a1 s0) (z3 : Exa Z h0 a2 s0) (z4 : a1 ≠ a2) (SgCS : Sta Z Z.heap s0 s3 "Z" (.int gCS)) (NgCS : ¬ (gCS = (0 : Int32))) (z5 : Fld Z h0 a1 s0 "coder" "B" iZ) (z6 : Fld Z h0 a2 s0 "coder" "B" iZ) (z7 : Fld Z h0 a1 s0 "value" "[B" (.ref a3)) (z8 : Fld Z h0 a2 s0 "value" "[B" (.ref a4)) (z9 : Arv Z h0 a3 z0 .byte 3 [(.int (b8 60)), (.int (b8 47)), (.int (b8 62))] iZ) (z10 : Arv Z h0 a4 z1 .byte 3 [(.int x1), (.int x2), (.int 62)] iZ) (hc8 : (b8 60) = x1) (hc9 : (b8 47) = x2) :
    CtrN l Z mn30 jdk_42_method_66_code 3 (some .boolean) [] (⟨1, 0, 0, 14⟩ : Room) #[(.ref a1), (.ref a2)] h0 [] (fun v h => v = some (.int 1)) := by
  refine CtrN.intro (L0 := #[vr a1, vr a2, un]) (plainFor_of_name pn0) O0 (own_entry rfl) ?_
  intro p e s m below meth c T0 hy hml hret hlk hnm W0
  refine o_aloadN W0 1 (hb hy d34_0) rfl rfl rfl <| o_aloadN W0 2 (hb hy d34_1) rfl rfl rfl ?_
  refine o_acmpY W0 7 (hb hy d34_2) rfl rfl (XT.aa_ne_t (fun q => z4 (Value.ref.inj q))) (by decide) rfl ?_
  refine o_aloadN W0 8 (hb hy d34_7) rfl rfl rfl ?_
  refine o_instY W0 (w183 hw) (Ins.self z3) 11 (hb hy d34_8) rfl ?_
  intro T1 W1
  refine o_ifN W1 14 (hb hy d34_11) (XT.i0_eq_f (by decide)) rfl <| o_aloadN W1 15 (hb hy d34_14) rfl rfl rfl ?_
  refine o_cast W1 (w183 hw) (Ins.self z3) 18 (hb hy d34_15) rfl ?_
  intro T2 W2
  refine o_astoreN W2 (L' := #[vr a1, vr a2, vr a2]) 19 (hb hy d34_18) rfl rfl rfl ?_
  refine o_getS W2 (w22 hw) Via.refl (SgCS.ext W2.ox) 22 (hb hy d34_19) rfl ?_
  intro T3 W3
  refine o_ifN W3 25 (hb hy d34_22) (XT.i0_eq_f NgCS) rfl <| o_aloadN W3 26 (hb hy d34_25) rfl rfl rfl ?_
  refine o_getF W3 (w21 hw) Via.refl z5 29 (hb hy d34_26) rfl ?_
  intro T4 W4
  refine o_aloadN W4 30 (hb hy d34_29) rfl rfl rfl ?_
  refine o_getF W4 (w21 hw) Via.refl z6 33 (hb hy d34_30) rfl ?_
  intro T5 W5
  refine o_icmpN W5 36 (hb hy d34_33) (XT.ii_ne_f (by decide)) rfl <| o_aloadN W5 37 (hb hy d34_36) rfl rfl rfl ?_
  refine o_getF W5 (w20 hw) Via.refl z7 40 (hb hy d34_37) rfl ?_
  intro T6 W6
  refine o_aloadN W6 41 (hb hy d34_40) rfl rfl rfl ?_
  refine o_getF W6 (w20 hw) Via.refl z8 44 (hb hy d34_41) rfl ?_
  intro T7 W7
  refine o_staticC W7 (w184 hw) (w185 hw) (w130 hw) (w186 hw) (by decide) (rm37 l hw a3 a4 z0 z1 x1 x2 h0 W7.old z9 z10 hc8 hc9) 0 0 0 (by decide) (by rw [hml]; rfl) (lenOf pd23 rfl) [] rfl rfl 47 (hb hy d34_44) rfl rfl rfl all0 tri ?_
  intro v10 T10 h10 lo10 W10 K10 q10
  obtain rfl := q10.2.2
  show Gl _ _ _ _ _ _ _ _ [(.int 1)]
  refine o_ifN W10 50 (hb hy d34_47) (XT.i0_eq_f (by decide)) rfl <| o_iconst W10 (v := 1) 51 (hb hy d34_50) rfl rfl <| o_goto W10 55 (hb hy d34_51) (by decide) rfl ?_
  exact o_retN W10 hlk (t := .boolean) hret (by simp) (z' := (1 : Int32)) (by decide) (hb hy d34_55) (by decide) (by decide) rfl
theorem rm39 (l : Launch) {Z a0} (hw : HW Z a0) (gCS : Int32) (a1 a2 : Addr) (z0 : ClassId) (x1 : Int32) (h0 : Heap) (O0 : Old Z Z.heap.size h0) (z1 : Fld Z h0 a1 s0 "value" "[B" (.ref a2)) (z2 : Arv Z h0 a2 z0 .byte 1 [(.int (b8 x1))] iZ) (z3 : Exa Z h0 a1 s0) (SgCS : Sta Z Z.heap s0 s3 "Z" (.int gCS)) (NgCS : ¬ (gCS = (0 : Int32))) (z4 : Fld Z h0 a1 s0 "coder" "B" iZ) :
    CtrN l Z mn6 jdk_42_method_54_code 1 (some .int) [] (⟨1, 0, 0, 13⟩ : Room) #[(.ref a1)] h0 [] (fun v h => v = some (.int 1)) := by
  refine CtrN.intro (L0 := #[vr a1]) (plainFor_of_name pn0) O0 (own_entry rfl) ?_
  intro p e s m below meth c T0 hy hml hret hlk hnm W0
  refine o_aloadN W0 1 (hb hy d13_0) rfl rfl rfl ?_
  refine o_getF W0 (w20 hw) Via.refl z1 4 (hb hy d13_1) rfl ?_
  intro T1 W1
  refine o_len W1 z2 5 (hb hy d13_4) rfl <| o_aloadN W1 6 (hb hy d13_5) rfl rfl rfl ?_
  refine o_virtualC W1 (w82 hw) (w83 hw) (o_nf W1 rfl (w85 hw)) (w85 hw) (w84 hw) (by decide) z3 (w86 hw) (w3 hw) (rm6 l hw gCS a1 h0 W1.old SgCS NgCS z4) 1 0 0 (by decide) (by rw [hml]; rfl) (lenOf pd4 rfl) [(.int 1)] rfl rfl 9 (hb hy d13_6) rfl rfl rfl all0 tri ?_
  intro v2 T2 h2 lo2 W2 K2 q2
  obtain rfl := q2.2.2
  show Gl _ _ _ _ _ _ _ _ [iZ, (.int 1)]
  refine o_ishr W2 (v := 1) 10 (hb hy d13_9) (by decide) rfl ?_
  exact o_retI W2 hlk hret (hb hy d13_10) (by decide) (by decide) rfl
theorem rm40 (l : Launch) {Z a0} (hw : HW Z a0) (gCS : Int32) (a1 a2 a3 : Addr) (z0 : ClassId) (x1 : Int32) (z1 : ClassId) (x2 x3 : Int32) (h0 : Heap) (O0 : Old Z Z.heap.size h0) (z2 : Exa Z h0 a1 s0) (SgCS : Sta Z Z.heap s0 s3 "Z" (.int gCS)) (NgCS : ¬ (gCS = (0 : Int32))) (z3 : Fld Z h0 a1 s0 "coder" "B" iZ) (z4 : Fld Z h0 a1 s0 "value" "[B" (.ref a3)) (z5 : Arv Z h0 a3 z0 .byte 1 [(.int (b8 x1))] iZ) (z6 : Arv Z h0 a2 z1 .byte 16 [(.int x2), (.int x3), iZ, iZ, iZ, iZ, iZ, iZ, iZ, iZ, iZ, iZ, iZ, iZ, iZ, iZ] iZ) (z7 : Z.heap.size ≤ a2) :
    CtrN l Z mn9 jdk_42_method_147_code 4 none [] (⟨1, 0, 0, 27⟩ : Room) #[(.ref a1), (.ref a2), (.int 2), iZ] h0 [a2] (fun v h => Arv Z h a2 z1 .byte 16 [(.int x2), (.int x3), (.int (b8 x1)), iZ, iZ, iZ, iZ, iZ, iZ, iZ, iZ, iZ, iZ, iZ, iZ, iZ] iZ ∧ v = none) := by
  refine CtrN.intro (L0 := #[vr a1, vr a2, vi 2, vi 0]) (plainFor_of_name pn0) O0 (own_entry rfl) ?_
  intro p e s m below meth c T0 hy hml hret hlk hnm W0
  refine o_aloadN W0 1 (hb hy d18_0) rfl rfl rfl ?_
  refine o_virtualC W0 (w82 hw) (w83 hw) (o_nf W0 rfl (w85 hw)) (w85 hw) (w84 hw) (by decide) z2 (w86 hw) (w3 hw) (rm6 l hw gCS a1 h0 W0.old SgCS NgCS z3) 0 0 0 (by decide) (by rw [hml]; rfl) (lenOf pd4 rfl) [] rfl rfl 4 (hb hy d18_1) rfl rfl rfl all0 tri ?_
  intro v1 T1 h1 lo1 W1 K1 q1
  obtain rfl := q1.2.2
  show Gl _ _ _ _ _ _ _ _ [iZ]
  refine o_iloadN W1 5 (hb hy d18_4) rfl rfl <| o_icmpN W1 8 (hb hy d18_5) (XT.ii_ne_f (by decide)) rfl <| o_aloadN W1 9 (hb hy d18_8) rfl rfl rfl ?_
  have c2 := (z4.keep K1 nin0)
  refine o_getF W1 (w20 hw) Via.refl c2 12 (hb hy d18_9) rfl ?_
  intro T3 W3
  refine o_iconst W3 (v := 0) 13 (hb hy d18_12) rfl rfl <| o_aloadN W3 14 (hb hy d18_13) rfl rfl rfl <| o_iloadN W3 15 (hb hy d18_14) rfl rfl <| o_iloadN W3 16 (hb hy d18_15) rfl rfl <| o_ishl W3 (v := 2) 17 (hb hy d18_16) (by decide) rfl <| o_aloadN W3 18 (hb hy d18_17) rfl rfl rfl ?_
  refine o_getF W3 (w20 hw) Via.refl c2 21 (hb hy d18_18) rfl ?_
  intro T4 W4
  have c5 := (z5.keep K1 nin0)
  refine o_len W4 c5 22 (hb hy d18_21) rfl ?_
  have c6 := (z6.keep K1 nin0)
  refine o_copy W4 (w110 hw) (w113 hw) (w111 hw) (w112 hw) c5 c6 (us := [(.int (b8 x1))]) (Or.inl ⟨rfl, rfl⟩) (by decide) (by decide) (by decide) (by decide) (by decide) rfl (Nat.le_of_ble_eq_true rfl) (vd' := [(.int x2), (.int x3), (.int (b8 x1)), iZ, iZ, iZ, iZ, iZ, iZ, iZ, iZ, iZ, iZ, iZ, iZ, iZ]) rfl z7 m0 tri (by rw [hml]; rfl) 25 (hb hy d18_22) rfl (by decide) 0 (by exact Nat.le_of_eq rfl) (by decide) ?_
  intro T7 h7 lo7 W7 K7 V7
  refine o_goto W7 43 (hb hy d18_25) (by decide) rfl ?_
  exact o_ret0 W7 hlk hret (hb hy d18_43) (by decide) (by decide) ⟨V7, rfl⟩
theorem rm41 (l : Launch) {Z a0} (hw : HW Z a0) (gCS : Int32) (a1 a2 a3 a4 : Addr) (z0 : ClassId) (x1 : Int32) (z1 : ClassId) (x2 x3 : Int32) (h0 : Heap) (O0 : Old Z Z.heap.size h0) (z2 : Exa Z h0 a1 s2) (SgCS : Sta Z Z.heap s0 s3 "Z" (.int gCS)) (NgCS : ¬ (gCS = (0 : Int32))) (z3 : Fld Z h0 a1 s1 "coder" "B" iZ) (z4 : Exa Z h0 a2 s0) (z5 : Fld Z h0 a2 s0 "coder" "B" iZ) (z6 : Fld Z h0 a1 s1 "value" "[B" (.ref a3)) (z7 : Fld Z h0 a2 s0 "value" "[B" (.ref a4)) (z8 : Arv Z h0 a4 z0 .byte 1 [(.int (b8 x1))] iZ) (z9 : Arv Z h0 a3 z1 .byte 16 [(.int x2), (.int x3), iZ, iZ, iZ, iZ, iZ, iZ, iZ, iZ, iZ, iZ, iZ, iZ, iZ, iZ] iZ) (z10 : Z.heap.size ≤ a3) :
    CtrN l Z mn10 jdk_68_method_73_code 3 none [] (⟨2, 0, 0, 42⟩ : Room) #[(.ref a1), (.int 2), (.ref a2)] h0 [a3] (fun v h => Arv Z h a3 z1 .byte 16 [(.int x2), (.int x3), (.int (b8 x1)), iZ, iZ, iZ, iZ, iZ, iZ, iZ, iZ, iZ, iZ, iZ, iZ, iZ] iZ ∧ v = none) := by
  refine CtrN.intro (L0 := #[vr a1, vi 2, vr a2]) (plainFor_of_name pn1) O0 (own_entry rfl) ?_
  intro p e s m below meth c T0 hy hml hret hlk hnm W0
  refine o_aloadN W0 1 (hb hy d16_0) rfl rfl rfl <| o_aloadN W0 2 (hb hy d16_1) rfl rfl rfl ?_
  refine o_privateC W0 (w99 hw) (w100 hw) (w102 hw) (w101 hw) (w103 hw) (by decide) z2 (w51 hw) (rm9 l hw gCS a1 a2 h0 W0.old SgCS NgCS z3 z4 z5) 0 0 0 (by decide) (by rw [hml]; rfl) (lenOf pd6 rfl) [] rfl rfl 5 (hb hy d16_2) rfl rfl rfl all0 tri ?_
  intro v1 T1 h1 lo1 W1 K1 q1
  obtain rfl := q1.2.2
  show Gl _ _ _ _ _ _ _ _ []
  refine o_aloadN W1 6 (hb hy d16_5) rfl rfl rfl <| o_aloadN W1 7 (hb hy d16_6) rfl rfl rfl ?_
  have c2 := (z6.keep K1 nin0)
  refine o_getF W1 (w55 hw) Via.refl c2 10 (hb hy d16_7) rfl ?_
  intro T3 W3
  refine o_iloadN W3 11 (hb hy d16_10) rfl rfl <| o_aloadN W3 12 (hb hy d16_11) rfl rfl rfl ?_
  have c4 := (z3.keep K1 nin0)
  refine o_getF W3 (w57 hw) Via.refl c4 15 (hb hy d16_12) rfl ?_
  intro T5 W5
  have c6 := (z5.keep K1 nin0)
  have c7 := (z7.keep K1 nin0)
  have c8 := (z8.keep K1 nin0)
  have c9 := (z9.keep K1 nin0)
  have c10 := (z4.keep K1)
  refine o_virtualC W5 (w105 hw) (w106 hw) (o_nf W5 rfl (w108 hw)) (w108 hw) (w107 hw) (by decide) c10 (w109 hw) (w3 hw) (rm40 l hw gCS a2 a3 a4 z0 x1 z1 x2 x3 h1 W5.old c10 SgCS NgCS c6 c7 c8 c9 z10) 0 0 0 (by decide) (by rw [hml]; rfl) (lenOf pd7 rfl) [] rfl rfl 18 (hb hy d16_15) rfl rfl rfl (allS ⟨z10, m0⟩ all0) tri ?_
  intro v11 T11 h11 lo11 W11 K11 q11
  obtain ⟨P11_0, rfl⟩ := q11.2.2
  show Gl _ _ _ _ _ _ _ _ []
  exact o_ret0 W11 hlk hret (hb hy d16_18) (by decide) (by decide) ⟨P11_0, rfl⟩
theorem rm42 (l : Launch) {Z a0} (hw : HW Z a0) (gCS : Int32) (a1 a2 a3 : Addr) (z0 : ClassId) (x1 : Int32) (a4 : Addr) (z1 : ClassId) (x2 x3 : Int32) (h0 : Heap) (O0 : Old Z Z.heap.size h0) (z2 : Exa Z h0 a2 s0) (z3 : Fld Z h0 a2 s0 "value" "[B" (.ref a3)) (z4 : Arv Z h0 a3 z0 .byte 1 [(.int (b8 x1))] iZ) (SgCS : Sta Z Z.heap s0 s3 "Z" (.int gCS)) (NgCS : ¬ (gCS = (0 : Int32))) (z5 : Fld Z h0 a2 s0 "coder" "B" iZ) (z6 : Fld Z h0 a1 s1 "count" "I" (.int 2)) (z7 : Exa Z h0 a1 s2) (z8 : Fld Z h0 a1 s1 "value" "[B" (.ref a4)) (z9 : Arv Z h0 a4 z1 .byte 16 [(.int x2), (.int x3), iZ, iZ, iZ, iZ, iZ, iZ, iZ, iZ, iZ, iZ, iZ, iZ, iZ, iZ] iZ) (z10 : Fld Z h0 a1 s1 "coder" "B" iZ) (z11 : Z.heap.size ≤ a4) (z12 : Z.heap.size ≤ a1) :
    CtrN l Z mn11 jdk_68_method_22_code 3 (some (.object s1)) [] (⟨3, 0, 0, 56⟩ : Room) #[(.ref a1), (.ref a2)] h0 [a4, a1] (fun v h => Fld Z h a1 s1 "count" "I" (.int 3) ∧ Fld Z h a1 s1 "value" "[B" (.ref a4) ∧ Arv Z h a4 z1 .byte 16 [(.int x2), (.int x3), (.int (b8 x1)), iZ, iZ, iZ, iZ, iZ, iZ, iZ, iZ, iZ, iZ, iZ, iZ, iZ] iZ ∧ Fld Z h a1 s1 "coder" "B" iZ ∧ v = some (.ref a1)) := by
  refine CtrN.intro (L0 := #[vr a1, vr a2, un]) (plainFor_of_name pn1) O0 (own_entry rfl) ?_
  intro p e s m below meth c T0 hy hml hret hlk hnm W0
  refine o_aloadN W0 1 (hb hy d12_0) rfl rfl rfl ?_
  refine o_ifnonnullY W0 9 (hb hy d12_1) (by decide) rfl ?_
  refine o_aloadN W0 10 (hb hy d12_9) rfl rfl rfl ?_
  refine o_virtualC W0 (w77 hw) (w78 hw) (o_nf W0 rfl (w80 hw)) (w80 hw) (w79 hw) (by decide) z2 (w81 hw) (w3 hw) (rm39 l hw gCS a2 a3 z0 x1 h0 W0.old z3 z4 z2 SgCS NgCS z5) 0 0 0 (by decide) (by rw [hml]; rfl) (lenOf pd5 rfl) [] rfl rfl 13 (hb hy d12_10) rfl rfl rfl all0 tri ?_
  intro v1 T1 h1 lo1 W1 K1 q1
  obtain rfl := q1.2.2
  show Gl _ _ _ _ _ _ _ _ [(.int 1)]
  refine o_istoreN W1 (L' := #[vr a1, vr a2, vi 1]) 14 (hb hy d12_13) rfl rfl <| o_aloadN W1 15 (hb hy d12_14) rfl rfl rfl <| o_aloadN W1 16 (hb hy d12_15) rfl rfl rfl ?_
  have c2 := (z6.keep K1 nin0)
  refine o_getF W1 (w87 hw) Via.refl c2 19 (hb hy d12_16) rfl ?_
  intro T3 W3
  refine o_iloadN W3 20 (hb hy d12_19) rfl rfl <| o_iadd W3 (v := 3) 21 (hb hy d12_20) (by decide) rfl ?_
  have c4 := (z7.keep K1)
  have c5 := (z8.keep K1 nin0)
  have c6 := (z9.keep K1 nin0)
  have c7 := (z10.keep K1 nin0)
  refine o_privateC W3 (w89 hw) (w90 hw) (w92 hw) (w91 hw) (w93 hw) (by decide) c4 (w51 hw) (rm20 l hw a1 a4 z1 x2 x3 h1 W3.old c5 c6 c7) 0 0 0 (by decide) (by rw [hml]; rfl) (lenOf pd2 rfl) [] rfl rfl 24 (hb hy d12_21) rfl rfl rfl all0 tri ?_
  intro v8 T8 h8 lo8 W8 K8 q8
  obtain rfl := q8.2.2
  show Gl _ _ _ _ _ _ _ _ []
  refine o_aloadN W8 25 (hb hy d12_24) rfl rfl rfl <| o_aloadN W8 26 (hb hy d12_25) rfl rfl rfl ?_
  have c9 := (c2.keep K8 nin0)
  refine o_getF W8 (w87 hw) Via.refl c9 29 (hb hy d12_26) rfl ?_
  intro T10 W10
  refine o_aloadN W10 30 (hb hy d12_29) rfl rfl rfl ?_
  have c11 := (c7.keep K8 nin0)
  have c12 := ((z5.keep K1 nin0).keep K8 nin0)
  have c13 := (c5.keep K8 nin0)
  have c14 := ((z3.keep K1 nin0).keep K8 nin0)
  have c15 := ((z4.keep K1 nin0).keep K8 nin0)
  have c16 := (c6.keep K8 nin0)
  have c17 := (c4.keep K8)
  have c18 := ((z2.keep K1).keep K8)
  refine o_privateC W10 (w94 hw) (w95 hw) (w97 hw) (w96 hw) (w98 hw) (by decide) c17 (w51 hw) (rm41 l hw gCS a1 a2 a4 a3 z0 x1 z1 x2 x3 h8 W10.old c17 SgCS NgCS c11 c18 c12 c13 c14 c15 c16 z11) 0 0 0 (by decide) (by rw [hml]; rfl) (lenOf pd8 rfl) [] rfl rfl 33 (hb hy d12_30) rfl rfl rfl (allS ⟨z11, m0⟩ all0) tri ?_
  intro v19 T19 h19 lo19 W19 K19 q19
  obtain ⟨P19_0, rfl⟩ := q19.2.2
  show Gl _ _ _ _ _ _ _ _ []
  refine o_aloadN W19 34 (hb hy d12_33) rfl rfl rfl <| o_dup W19 35 (hb hy d12_34) rfl rfl ?_
  have c20 := (c17.keep K19)
  have c21 := (c9.keep K19 (ninS (Exa.neArv c17 c16 (w42 hw)) nin0))
  refine o_getF W19 (w87 hw) Via.refl c21 38 (hb hy d12_35) rfl ?_
  intro T22 W22
  refine o_iloadN W22 39 (hb hy d12_38) rfl rfl <| o_iadd W22 (v := 3) 40 (hb hy d12_39) (by decide) rfl ?_
  refine o_putF W22 (w87 hw) Via.refl c21 c20 (Or.inl (w88 hw)) (w42 hw) (ty := .int) (v' := (.int 3)) (by decide) rfl rfl z12 (Or.inl (List.mem_of_getElem? (i := 1) rfl)) tri 43 (hb hy d12_40) rfl ?_
  intro T23 h23 lo23 W23 R23
  have F23 := c21.same R23
  refine o_aloadN W23 44 (hb hy d12_43) rfl rfl rfl ?_
  have c24 := (c20.wr R23)
  have c25 := ((c13.keep K19 (ninS (Exa.neArv c17 c16 (w42 hw)) nin0)).other R23 (Or.inr (slot_ne (Or.inl (w56 hw)) (Or.inl (w88 hw)) (by decide) (t := (.array .byte)) (t' := .int) (by decide) (by decide))))
  have c26 := ((c11.keep K19 (ninS (Exa.neArv c17 c16 (w42 hw)) nin0)).other R23 (Or.inr (slot_ne (Or.inl (w58 hw)) (Or.inl (w88 hw)) (by decide) (t := .byte) (t' := .int) (by decide) (by decide))))
  have c27 := (P19_0.other R23 (Ne.symm (Exa.neArv c20 P19_0 (w42 hw))))
  exact o_retA W23 hlk (v := (.ref a1)) hret rfl rfl (hb hy d12_44) (by decide) (by decide) ⟨F23, c25, c27, c26, rfl⟩
theorem rm43 (l : Launch) {Z a0} (hw : HW Z a0) (gCS : Int32) (a1 a2 a3 : Addr) (z0 : ClassId) (x1 : Int32) (a4 : Addr) (z1 : ClassId) (x2 x3 : Int32) (h0 : Heap) (O0 : Old Z Z.heap.size h0) (z2 : Exa Z h0 a2 s0) (z3 : Fld Z h0 a2 s0 "value" "[B" (.ref a3)) (z4 : Arv Z h0 a3 z0 .byte 1 [(.int (b8 x1))] iZ) (SgCS : Sta Z Z.heap s0 s3 "Z" (.int gCS)) (NgCS : ¬ (gCS = (0 : Int32))) (z5 : Fld Z h0 a2 s0 "coder" "B" iZ) (z6 : Fld Z h0 a1 s1 "count" "I" (.int 2)) (z7 : Exa Z h0 a1 s2) (z8 : Fld Z h0 a1 s1 "value" "[B" (.ref a4)) (z9 : Arv Z h0 a4 z1 .byte 16 [(.int x2), (.int x3), iZ, iZ, iZ, iZ, iZ, iZ, iZ, iZ, iZ, iZ, iZ, iZ, iZ, iZ] iZ) (z10 : Fld Z h0 a1 s1 "coder" "B" iZ) (z11 : Z.heap.size ≤ a4) (z12 : Z.heap.size ≤ a1) :
    CtrN l Z mn12 jdk_67_method_7_code 2 (some (.object s2)) [] (⟨4, 0, 0, 70⟩ : Room) #[(.ref a1), (.ref a2)] h0 [a1, a4] (fun v h => Fld Z h a1 s1 "count" "I" (.int 3) ∧ Fld Z h a1 s1 "value" "[B" (.ref a4) ∧ Arv Z h a4 z1 .byte 16 [(.int x2), (.int x3), (.int (b8 x1)), iZ, iZ, iZ, iZ, iZ, iZ, iZ, iZ, iZ, iZ, iZ, iZ, iZ] iZ ∧ Fld Z h a1 s1 "coder" "B" iZ ∧ v = some (.ref a1)) := by
  refine CtrN.intro (L0 := #[vr a1, vr a2]) (plainFor_of_name pn2) O0 (own_entry rfl) ?_
  intro p e s m below meth c T0 hy hml hret hlk hnm W0
  refine o_aloadN W0 1 (hb hy d11_0) rfl rfl rfl <| o_aloadN W0 2 (hb hy d11_1) rfl rfl rfl ?_
  refine o_superC W0 (by decide) (w72 hw) (w73 hw) (own_sameN (y := mn11) (y2 := mn7) (by decide) (w73 hw) rfl (w90 hw) (w92 hw)) (w74 hw) (w76 hw) (Ins.self z7) (w51 hw) (rm42 l hw gCS a1 a2 a3 z0 x1 a4 z1 x2 x3 h0 W0.old z2 z3 z4 SgCS NgCS z5 z6 z7 z8 z9 z10 z11 z12) 0 0 0 (by decide) (by rw [hml]; rfl) (lenOf pd9 rfl) [] rfl rfl 5 (hb hy d11_2) rfl rfl rfl (allS ⟨z11, (Or.inl (List.mem_of_getElem? (i := 1) rfl))⟩ (allS ⟨z12, m0⟩ all0)) tri ?_
  intro v1 T1 h1 lo1 W1 K1 q1
  obtain ⟨P1_0, P1_1, P1_2, P1_3, rfl⟩ := q1.2.2
  show Gl _ _ _ _ _ _ _ _ [(.ref a1)]
  refine o_pop W1 6 (hb hy d11_5) rfl rfl <| o_aloadN W1 7 (hb hy d11_6) rfl rfl rfl ?_
  have c2 := (z7.keep K1)
  exact o_retA W1 hlk (v := (.ref a1)) hret rfl rfl (hb hy d11_7) (by decide) (by decide) ⟨P1_0, P1_1, P1_2, P1_3, rfl⟩
theorem rm44 (l : Launch) {Z a0} (hw : HW Z a0) (a1 a2 : Addr) (z0 : ClassId) (x1 x2 x3 : Int32) (h0 : Heap) (O0 : Old Z Z.heap.size h0) (z1 : Fld Z h0 a1 s1 "value" "[B" (.ref a2)) (z2 : Arv Z h0 a2 z0 .byte 16 [(.int x1), (.int x2), (.int x3), iZ, iZ, iZ, iZ, iZ, iZ, iZ, iZ, iZ, iZ, iZ, iZ, iZ] iZ) (z3 : Fld Z h0 a1 s1 "coder" "B" iZ) :
    CtrN l Z mn7 jdk_68_method_9_code 3 none [] (⟨0, 0, 0, 0⟩ : Room) #[(.ref a1), (.int 4)] h0 [] (fun v h => v = none) := by
  refine CtrN.intro (L0 := #[vr a1, vi 4, un]) (plainFor_of_name pn1) O0 (own_entry rfl) ?_
  intro p e s m below meth c T0 hy hml hret hlk hnm W0
  refine o_aloadN W0 1 (hb hy d15_0) rfl rfl rfl ?_
  refine o_getF W0 (w55 hw) Via.refl z1 4 (hb hy d15_1) rfl ?_
  intro T1 W1
  refine o_len W1 z2 5 (hb hy d15_4) rfl <| o_aloadN W1 6 (hb hy d15_5) rfl rfl rfl ?_
  refine o_getF W1 (w57 hw) Via.refl z3 9 (hb hy d15_6) rfl ?_
  intro T2 W2
  refine o_ishr W2 (v := 16) 10 (hb hy d15_9) (by decide) rfl <| o_istoreN W2 (L' := #[vr a1, vi 4, vi 16]) 11 (hb hy d15_10) rfl rfl <| o_iloadN W2 12 (hb hy d15_11) rfl rfl <| o_iloadN W2 13 (hb hy d15_12) rfl rfl <| o_isub W2 (v := (-12 : Int32)) 14 (hb hy d15_13) (by decide) rfl <| o_ifY W2 38 (hb hy d15_14) (XT.i0_le_t (by decide)) (by decide) rfl ?_
  exact o_ret0 W2 hlk hret (hb hy d15_38) (by decide) (by decide) rfl
theorem rm45 (l : Launch) {Z a0} (hw : HW Z a0) (gCS : Int32) (a1 a2 : Addr) (z0 : ClassId) (x1 x2 x3 : Int32) (h0 : Heap) (O0 : Old Z Z.heap.size h0) (z1 : Fld Z h0 a1 s1 "count" "I" (.int 3)) (z2 : Exa Z h0 a1 s2) (z3 : Fld Z h0 a1 s1 "value" "[B" (.ref a2)) (z4 : Arv Z h0 a2 z0 .byte 16 [(.int x1), (.int x2), (.int x3), iZ, iZ, iZ, iZ, iZ, iZ, iZ, iZ, iZ, iZ, iZ, iZ, iZ] iZ) (z5 : Fld Z h0 a1 s1 "coder" "B" iZ) (SgCS : Sta Z Z.heap s0 s3 "Z" (.int gCS)) (NgCS : ¬ (gCS = (0 : Int32))) (z6 : Z.heap.size ≤ a1) (z7 : Z.heap.size ≤ a2) :
    CtrN l Z mn15 jdk_68_method_31_code 2 (some (.object s1)) [] (⟨1, 0, 0, 14⟩ : Room) #[(.ref a1), (.int 62)] h0 [a1, a2] (fun v h => Fld Z h a1 s1 "count" "I" (.int 4) ∧ Fld Z h a1 s1 "value" "[B" (.ref a2) ∧ Arv Z h a2 z0 .byte 16 [(.int x1), (.int x2), (.int x3), (.int 62), iZ, iZ, iZ, iZ, iZ, iZ, iZ, iZ, iZ, iZ, iZ, iZ] iZ ∧ Fld Z h a1 s1 "coder" "B" iZ ∧ v = some (.ref a1)) := by
  refine CtrN.intro (L0 := #[vr a1, vi 62]) (plainFor_of_name pn1) O0 (own_entry rfl) ?_
  intro p e s m below meth c T0 hy hml hret hlk hnm W0
  refine o_aloadN W0 1 (hb hy d20_0) rfl rfl rfl <| o_aloadN W0 2 (hb hy d20_1) rfl rfl rfl ?_
  refine o_getF W0 (w87 hw) Via.refl z1 5 (hb hy d20_2) rfl ?_
  intro T1 W1
  refine o_iconst W1 (v := 1) 6 (hb hy d20_5) rfl rfl <| o_iadd W1 (v := 4) 7 (hb hy d20_6) (by decide) rfl ?_
  refine o_privateC W1 (w89 hw) (w90 hw) (w92 hw) (w91 hw) (w93 hw) (by decide) z2 (w51 hw) (rm44 l hw a1 a2 z0 x1 x2 x3 h0 W1.old z3 z4 z5) 0 0 0 (by decide) (by rw [hml]; rfl) (lenOf pd2 rfl) [] rfl rfl 10 (hb hy d20_7) rfl rfl rfl all0 tri ?_
  intro v2 T2 h2 lo2 W2 K2 q2
  obtain rfl := q2.2.2
  show Gl _ _ _ _ _ _ _ _ []
  refine o_aloadN W2 11 (hb hy d20_10) rfl rfl rfl ?_
  have c3 := (z5.keep K2 nin0)
  have c4 := (z2.keep K2)
  refine o_virtualC W2 (w123 hw) (w124 hw) (o_nf W2 rfl (w126 hw)) (w126 hw) (w125 hw) (by decide) c4 (w127 hw) (w51 hw) (rm21 l hw gCS a1 h2 W2.old SgCS NgCS c3) 0 0 0 (by decide) (by rw [hml]; rfl) (lenOf pd11 rfl) [] rfl rfl 14 (hb hy d20_11) rfl rfl rfl all0 tri ?_
  intro v5 T5 h5 lo5 W5 K5 q5
  obtain rfl := q5.2.2
  show Gl _ _ _ _ _ _ _ _ [(.int 1)]
  refine o_ifN W5 17 (hb hy d20_14) (XT.i0_eq_f (by decide)) rfl <| o_iloadN W5 18 (hb hy d20_17) rfl rfl ?_
  refine o_staticC W5 (w128 hw) (w129 hw) (w130 hw) (w131 hw) (by decide) (rm22 l hw  h5 W5.old ) 0 0 0 (by decide) (by rw [hml]; rfl) (lenOf pd12 rfl) [] rfl rfl 21 (hb hy d20_18) rfl rfl rfl all0 tri ?_
  intro v6 T6 h6 lo6 W6 K6 q6
  obtain rfl := q6.2.2
  show Gl _ _ _ _ _ _ _ _ [(.int 1)]
  refine o_ifN W6 24 (hb hy d20_21) (XT.i0_eq_f (by decide)) rfl <| o_aloadN W6 25 (hb hy d20_24) rfl rfl rfl ?_
  have c7 := (((z3.keep K2 nin0).keep K5 nin0).keep K6 nin0)
  refine o_getF W6 (w55 hw) Via.refl c7 28 (hb hy d20_25) rfl ?_
  intro T8 W8
  refine o_aloadN W8 29 (hb hy d20_28) rfl rfl rfl <| o_dup W8 30 (hb hy d20_29) rfl rfl ?_
  have c9 := (((z1.keep K2 nin0).keep K5 nin0).keep K6 nin0)
  refine o_getF W8 (w87 hw) Via.refl c9 33 (hb hy d20_30) rfl ?_
  intro T10 W10
  refine o_dupX1 W10 34 (hb hy d20_33) rfl rfl rfl <| o_iconst W10 (v := 1) 35 (hb hy d20_34) rfl rfl <| o_iadd W10 (v := 4) 36 (hb hy d20_35) (by decide) rfl ?_
  have c11 := ((c4.keep K5).keep K6)
  refine o_putF W10 (w87 hw) Via.refl c9 c11 (Or.inl (w88 hw)) (w42 hw) (ty := .int) (v' := (.int 4)) (by decide) rfl rfl z6 m0 tri 39 (hb hy d20_36) rfl ?_
  intro T12 h12 lo12 W12 R12
  have F12 := c9.same R12
  refine o_iloadN W12 40 (hb hy d20_39) rfl rfl <| o_i2b W12 (v := 62) 41 (hb hy d20_40) (by decide) rfl ?_
  have c13 := (c11.wr R12)
  have c14 := (((z4.keep K2 nin0).keep K5 nin0).keep K6 nin0)
  have c15 := ((((z4.keep K2 nin0).keep K5 nin0).keep K6 nin0).other R12 (Ne.symm (Exa.neArv c11 c14 (w42 hw))))
  refine o_stB W12 c15 (i := 3) (x' := (62 : Int32)) (by decide) (by decide) (by decide) (Nat.lt_of_sub_eq_succ rfl) (by decide) (vs' := [(.int x1), (.int x2), (.int x3), (.int 62), iZ, iZ, iZ, iZ, iZ, iZ, iZ, iZ, iZ, iZ, iZ, iZ]) rfl z7 (Or.inl (List.mem_of_getElem? (i := 1) rfl)) tri 42 (hb hy d20_41) rfl ?_
  intro T16 h16 lo16 W16 R16 V16
  refine o_goto W16 75 (hb hy d20_42) (by decide) rfl <| o_aloadN W16 76 (hb hy d20_75) rfl rfl rfl ?_
  have c17 := (c13.wr R16)
  have c18 := (F12.other R16 (Or.inl (Exa.neArv c13 c15 (w42 hw))))
  have c19 := ((c7.other R12 (Or.inr (slot_ne (Or.inl (w56 hw)) (Or.inl (w88 hw)) (by decide) (t := (.array .byte)) (t' := .int) (by decide) (by decide)))).other R16 (Or.inl (Exa.neArv c13 c15 (w42 hw))))
  have c20 := ((((c3.keep K5 nin0).keep K6 nin0).other R12 (Or.inr (slot_ne (Or.inl (w58 hw)) (Or.inl (w88 hw)) (by decide) (t := .byte) (t' := .int) (by decide) (by decide)))).other R16 (Or.inl (Exa.neArv c13 c15 (w42 hw))))
  exact o_retA W16 hlk (v := (.ref a1)) hret rfl rfl (hb hy d20_76) (by decide) (by decide) ⟨c18, c19, V16, c20, rfl⟩
theorem rm46 (l : Launch) {Z a0} (hw : HW Z a0) (gCS : Int32) (a1 a2 : Addr) (z0 : ClassId) (x1 x2 x3 : Int32) (h0 : Heap) (O0 : Old Z Z.heap.size h0) (z1 : Fld Z h0 a1 s1 "count" "I" (.int 3)) (z2 : Exa Z h0 a1 s2) (z3 : Fld Z h0 a1 s1 "value" "[B" (.ref a2)) (z4 : Arv Z h0 a2 z0 .byte 16 [(.int x1), (.int x2), (.int x3), iZ, iZ, iZ, iZ, iZ, iZ, iZ, iZ, iZ, iZ, iZ, iZ, iZ] iZ) (z5 : Fld Z h0 a1 s1 "coder" "B" iZ) (SgCS : Sta Z Z.heap s0 s3 "Z" (.int gCS)) (NgCS : ¬ (gCS = (0 : Int32))) (z6 : Z.heap.size ≤ a1) (z7 : Z.heap.size ≤ a2) :
    CtrN l Z mn16 jdk_67_method_14_code 2 (some (.object s2)) [] (⟨2, 0, 0, 27⟩ : Room) #[(.ref a1), (.int 62)] h0 [a2, a1] (fun v h => Fld Z h a1 s1 "count" "I" (.int 4) ∧ Fld Z h a1 s1 "value" "[B" (.ref a2) ∧ Arv Z h a2 z0 .byte 16 [(.int x1), (.int x2), (.int x3), (.int 62), iZ, iZ, iZ, iZ, iZ, iZ, iZ, iZ, iZ, iZ, iZ, iZ] iZ ∧ Fld Z h a1 s1 "coder" "B" iZ ∧ v = some (.ref a1)) := by
  refine CtrN.intro (L0 := #[vr a1, vi 62]) (plainFor_of_name pn2) O0 (own_entry rfl) ?_
  intro p e s m below meth c T0 hy hml hret hlk hnm W0
  refine o_aloadN W0 1 (hb hy d19_0) rfl rfl rfl <| o_iloadN W0 2 (hb hy d19_1) rfl rfl ?_
  refine o_superC W0 (by decide) (w119 hw) (w120 hw) (own_sameN (y := mn15) (y2 := mn7) (by decide) (w120 hw) rfl (w90 hw) (w92 hw)) (w74 hw) (w122 hw) (Ins.self z2) (w51 hw) (rm45 l hw gCS a1 a2 z0 x1 x2 x3 h0 W0.old z1 z2 z3 z4 z5 SgCS NgCS z6 z7) 0 0 0 (by decide) (by rw [hml]; rfl) (lenOf pd13 rfl) [] rfl rfl 5 (hb hy d19_2) rfl rfl rfl (allS ⟨z6, (Or.inl (List.mem_of_getElem? (i := 1) rfl))⟩ (allS ⟨z7, m0⟩ all0)) tri ?_
  intro v1 T1 h1 lo1 W1 K1 q1
  obtain ⟨P1_0, P1_1, P1_2, P1_3, rfl⟩ := q1.2.2
  show Gl _ _ _ _ _ _ _ _ [(.ref a1)]
  refine o_pop W1 6 (hb hy d19_5) rfl rfl <| o_aloadN W1 7 (hb hy d19_6) rfl rfl rfl ?_
  have c2 := (z2.keep K1)
  exact o_retA W1 hlk (v := (.ref a1)) hret rfl rfl (hb hy d19_7) (by decide) (by decide) ⟨P1_0, P1_1, P1_2, P1_3, rfl⟩
theorem rm47 (l : Launch) {Z a0} (hw : HW Z a0) (gCS : Int32) (a1 a2 a3 a4 : Addr) (z0 : ClassId) (a5 : Addr) (z1 : ClassId) (x1 : Int32) (h0 : Heap) (O0 : Old Z Z.heap.size h0) (z2 : Fld Z h0 a1 s4 "out" s5 (.ref a3)) (z3 : Exa Z h0 a3 s2) (SgCS : Sta Z Z.heap s0 s3 "Z" (.int gCS)) (NgCS : ¬ (gCS = (0 : Int32))) (z4 : Fld Z h0 a3 s1 "count" "I" iZ) (z5 : Fld Z h0 a3 s1 "value" "[B" (.ref a4)) (z6 : Arv Z h0 a4 z0 .byte 16 [iZ, iZ, iZ, iZ, iZ, iZ, iZ, iZ, iZ, iZ, iZ, iZ, iZ, iZ, iZ, iZ] iZ) (z7 : Fld Z h0 a3 s1 "coder" "B" iZ) (z8 : Z.heap.size ≤ a4) (z9 : Z.heap.size ≤ a3) (z10 : Exa Z h0 a2 s0) (z11 : Fld Z h0 a2 s0 "value" "[B" (.ref a5)) (z12 : Arv Z h0 a5 z1 .byte 1 [(.int (b8 x1))] iZ) (z13 : a4 ≠ a5) (z14 : Fld Z h0 a2 s0 "coder" "B" iZ) :
    CtrW l Z consts_1 mn17 prog_5_method_3_code 2 (some (.object s4)) [] (⟨5, 2, 12, 83⟩ : Room) #[(.ref a1), (.ref a2)] h0 [a4, a3] (fun v h => Fld Z h a3 s1 "count" "I" (.int 4) ∧ Fld Z h a3 s1 "value" "[B" (.ref a4) ∧ Arv Z h a4 z0 .byte 16 [(.int (b8 60)), (.int (b8 47)), (.int (b8 x1)), (.int 62), iZ, iZ, iZ, iZ, iZ, iZ, iZ, iZ, iZ, iZ, iZ, iZ] iZ ∧ Fld Z h a3 s1 "coder" "B" iZ ∧ v = some (.ref a1)) := by
  refine CtrW.intro (L0 := #[vr a1, vr a2]) (plainFor_of_name pn3) O0 (own_entry rfl) ?_
  intro p e s m below meth c T0 V0 hy hml hret hlk hnm W0
  refine o_aloadN W0 1 (hb hy d10_0) rfl rfl rfl ?_
  refine o_getF W0 (w59 hw) Via.refl z2 4 (hb hy d10_1) rfl ?_
  intro T1 W1
  refine o_ldcR W1 (w66 hw) (own_wS hw) (own_EL hw) (by simp [consts_1]) 6 (hb hy d10_4) rfl (n := 8) (by decide) (by decide) (cells' := 2) (slots' := 12) rfl rfl (by decide) (by decide) (vs := [(.int (b8 60)), (.int (b8 47))]) (z := (2 : Int32)) ⟨by decide, by decide⟩ (by decide) (by decide) ?_
  intro s2 T2 h2 V2 t2 k2 W2 E2 C2 X2 Fc2 Fv2 A2 ns2
  have c3 := (z3.ext E2)
  have c4 := (z4.ext E2)
  have c5 := (z5.ext E2)
  have c6 := (z6.ext E2)
  have c7 := (z7.ext E2)
  refine o_virtualC W2 (w67 hw) (w68 hw) (o_nf W2 rfl (w70 hw)) (w70 hw) (w69 hw) (by decide) c3 (w71 hw) (w43 hw) (rm13 l hw gCS a3 s2 t2 k2 a4 z0 h2 W2.old X2 Fv2 A2 SgCS NgCS Fc2 c4 c3 c5 c6 c7 z8 z9) 0 2 12 (by decide) (by rw [hml]; rfl) (lenOf pd10 rfl) [] rfl rfl 9 (hb hy d10_6) rfl rfl rfl (allS ⟨z9, (Or.inl (List.mem_of_getElem? (i := 1) rfl))⟩ (allS ⟨z8, m0⟩ all0)) (fun _ K => IW.keep K (sfS (Safe.exa W2.al c3 (by decide) (by decide)) (sfS (own_safeB W2.2.2.2.1 (n := 16) (by decide) (own_EL16 hw) c6) sf0)) W2.inv) ?_
  intro v8 T8 h8 lo8 W8 K8 q8
  obtain ⟨P8_0, P8_1, P8_2, P8_3, rfl⟩ := q8.2.2
  show Gl _ _ _ _ _ _ _ _ [(.ref a3)]
  refine o_aloadN W8 10 (hb hy d10_9) rfl rfl rfl ?_
  have c9 := ((z10.ext E2).keep K8)
  have c10 := (z10.ext E2)
  have c11 := (c3.keep K8)
  have c12 := ((z11.ext E2).keep K8 (ninS (Exa.ne c10 c3 (by decide)) (ninS (Exa.neArv c10 c6 (w2 hw)) nin0)))
  have c13 := (z12.ext E2)
  have c14 := ((z12.ext E2).keep K8 (ninS (Ne.symm (Exa.neArv c3 c13 (w42 hw))) (ninS (Ne.symm z13) nin0)))
  have c15 := ((z14.ext E2).keep K8 (ninS (Exa.ne c10 c3 (by decide)) (ninS (Exa.neArv c10 c6 (w2 hw)) nin0)))
  refine o_virtualC W8 (w67 hw) (w68 hw) (o_nf W8 rfl (w70 hw)) (w70 hw) (w69 hw) (by decide) c11 (w71 hw) (w43 hw) (rm43 l hw gCS a3 a2 a5 z1 x1 a4 z0 (b8 60) (b8 47) h8 W8.old c9 c12 c14 SgCS NgCS c15 P8_0 c11 P8_1 P8_2 P8_3 z8 z9) 0 2 12 (by decide) (by rw [hml]; rfl) (lenOf pd10 rfl) [] rfl rfl 13 (hb hy d10_10) rfl rfl rfl (allS ⟨z9, (Or.inl (List.mem_of_getElem? (i := 1) rfl))⟩ (allS ⟨z8, m0⟩ all0)) (fun _ K => IW.keep K (sfS (Safe.exa W8.al c11 (by decide) (by decide)) (sfS (own_safeB W8.2.2.2.1 (n := 16) (by decide) (own_EL16 hw) P8_2) sf0)) W8.inv) ?_
  intro v16 T16 h16 lo16 W16 K16 q16
  obtain ⟨P16_0, P16_1, P16_2, P16_3, rfl⟩ := q16.2.2
  show Gl _ _ _ _ _ _ _ _ [(.ref a3)]
  refine o_bipush W16 (v := 62) 15 (hb hy d10_13) (by decide) rfl ?_
  have c17 := (c11.keep K16)
  refine o_virtualC W16 (w114 hw) (w115 hw) (o_nf W16 rfl (w117 hw)) (w117 hw) (w116 hw) (by decide) c17 (w118 hw) (w43 hw) (rm46 l hw gCS a3 a4 z0 (b8 60) (b8 47) (b8 x1) h16 W16.old P16_0 c17 P16_1 P16_2 P16_3 SgCS NgCS z9 z8) 0 2 12 (by decide) (by rw [hml]; rfl) (lenOf pd14 rfl) [] rfl rfl 18 (hb hy d10_15) rfl rfl rfl (allS ⟨z8, m0⟩ (allS ⟨z9, (Or.inl (List.mem_of_getElem? (i := 1) rfl))⟩ all0)) (fun _ K => IW.keep K (sfS (own_safeB W16.2.2.2.1 (n := 16) (by decide) (own_EL16 hw) P16_2) (sfS (Safe.exa W16.al c17 (by decide) (by decide)) sf0)) W16.inv) ?_
  intro v18 T18 h18 lo18 W18 K18 q18
  obtain ⟨P18_0, P18_1, P18_2, P18_3, rfl⟩ := q18.2.2
  show Gl _ _ _ _ _ _ _ _ [(.ref a3)]
  refine o_pop W18 19 (hb hy d10_18) rfl rfl <| o_aloadN W18 20 (hb hy d10_19) rfl rfl rfl ?_
  have c19 := (c17.keep K18)
  exact o_retAW W18 (own_EL hw) hlk (v := (.ref a1)) hret rfl rfl (hb hy d10_20) (by decide) (by decide) ⟨P18_0, P18_1, P18_2, P18_3, rfl⟩
theorem rm48 (l : Launch) {Z a0} (hw : HW Z a0) (a1 : Addr) (h0 : Heap) (O0 : Old Z Z.heap.size h0) (z0 : Fld Z h0 a1 s1 "count" "I" (.int 4)) :
    CtrN l Z mn19 jdk_68_method_6_code 1 (some .int) [] (⟨0, 0, 0, 0⟩ : Room) #[(.ref a1)] h0 [] (fun v h => v = some (.int 4)) := by
  refine CtrN.intro (L0 := #[vr a1]) (plainFor_of_name pn1) O0 (own_entry rfl) ?_
  intro p e s m below meth c T0 hy hml hret hlk hnm W0
  refine o_aloadN W0 1 (hb hy d29_0) rfl rfl rfl ?_
  refine o_getF W0 (w87 hw) Via.refl z0 4 (hb hy d29_1) rfl ?_
  intro T1 W1
  exact o_retI W1 hlk hret (hb hy d29_4) (by decide) (by decide) rfl
theorem rm49 (l : Launch) {Z a0} (hw : HW Z a0) (a1 : Addr) (h0 : Heap) (O0 : Old Z Z.heap.size h0) (z0 : Fld Z h0 a1 s1 "count" "I" (.int 4)) (z1 : Exa Z h0 a1 s2) :
    CtrN l Z mn20 jdk_67_method_93_code 1 (some .int) [] (⟨1, 0, 0, 12⟩ : Room) #[(.ref a1)] h0 [] (fun v h => v = some (.int 4)) := by
  refine CtrN.intro (L0 := #[vr a1]) (plainFor_of_name pn2) O0 (own_entry rfl) ?_
  intro p e s m below meth c T0 hy hml hret hlk hnm W0
  refine o_aloadN W0 1 (hb hy d28_0) rfl rfl rfl ?_
  refine o_superC W0 (by decide) (w160 hw) (w156 hw) (own_sameN (y := mn19) (y2 := mn7) (by decide) (w156 hw) rfl (w90 hw) (w92 hw)) (w74 hw) (w161 hw) (Ins.self z1) (w51 hw) (rm48 l hw a1 h0 W0.old z0) 0 0 0 (by decide) (by rw [hml]; rfl) (lenOf pd5 rfl) [] rfl rfl 4 (hb hy d28_1) rfl rfl rfl all0 tri ?_
  intro v1 T1 h1 lo1 W1 K1 q1
  obtain rfl := q1.2.2
  show Gl _ _ _ _ _ _ _ _ [(.int 4)]
  exact o_retI W1 hlk hret (hb hy d28_4) (by decide) (by decide) rfl
theorem rm50 (l : Launch) {Z a0} (hw : HW Z a0)  (h0 : Heap) (O0 : Old Z Z.heap.size h0) :
    CtrN l Z mn21 jdk_65_method_131_code 2 none [] (⟨0, 0, 0, 0⟩ : Room) #[iZ, (.int 4)] h0 [] (fun v h => v = none) := by
  refine CtrN.intro (L0 := #[vi 0, vi 4]) (plainFor_of_name pn5) O0 (own_entry rfl) ?_
  intro p e s m below meth c T0 hy hml hret hlk hnm W0
  refine o_iloadN W0 1 (hb hy d32_0) rfl rfl <| o_iloadN W0 2 (hb hy d32_1) rfl rfl <| o_icmpY W0 37 (hb hy d32_2) (XT.ii_ge_t (by decide)) (by decide) rfl ?_
  exact o_ret0 W0 hlk hret (hb hy d32_37) (by decide) (by decide) rfl
theorem rm51 (l : Launch) {Z a0} (hw : HW Z a0)  (h0 : Heap) (O0 : Old Z Z.heap.size h0) :
    CtrN l Z mn22 jdk_29_method_69_code 2 (some .int) [] (⟨0, 0, 0, 0⟩ : Room) #[(.int 16), (.int 4)] h0 [] (fun v h => v = some (.int 4)) := by
  refine CtrN.intro (L0 := #[vi 16, vi 4]) (Jvm.Free.JP.mathPlain rfl (by decide +kernel)) O0 (own_entry rfl) ?_
  intro p e s m below meth c T0 hy hml hret hlk hnm W0
  refine o_iloadN W0 1 (hb hy d33_0) rfl rfl <| o_iloadN W0 2 (hb hy d33_1) rfl rfl <| o_icmpY W0 9 (hb hy d33_2) (XT.ii_gt_t (by decide)) (by decide) rfl <| o_iloadN W0 10 (hb hy d33_9) rfl rfl ?_
  exact o_retI W0 hlk hret (hb hy d33_10) (by decide) (by decide) rfl
theorem rm52 (l : Launch) {Z a0} (hw : HW Z a0) (a1 : Addr) (z0 : ClassId) (x1 x2 x3 : Int32) (h0 : Heap) (O0 : Old Z Z.heap.size h0) (z1 : Arv Z h0 a1 z0 .byte 16 [(.int x1), (.int x2), (.int x3), (.int 62), iZ, iZ, iZ, iZ, iZ, iZ, iZ, iZ, iZ, iZ, iZ, iZ] iZ) :
    CtrN l Z mn23 jdk_65_method_133_code 5 (some (.array .byte)) [] (⟨1, 1, 4, 27⟩ : Room) #[(.ref a1), iZ, (.int 4)] h0 [] (fun v h => ∃ r1 : Addr, ∃ r2 : ClassId, h0.size ≤ r1 ∧ Arv Z h r1 r2 .byte 4 [(.int x1), (.int x2), (.int x3), (.int 62)] iZ ∧ v = some (.ref r1)) := by
  refine CtrN.intro (L0 := #[vr a1, vi 0, vi 4, un, un]) (plainFor_of_name pn5) O0 (own_entry rfl) ?_
  intro p e s m below meth c T0 hy hml hret hlk hnm W0
  refine o_iloadN W0 1 (hb hy d31_0) rfl rfl <| o_iloadN W0 2 (hb hy d31_1) rfl rfl ?_
  refine o_staticC W0 (w170 hw) (w171 hw) (w165 hw) (w172 hw) (by decide) (rm50 l hw  h0 W0.old ) 0 0 0 (by decide) (by rw [hml]; rfl) (lenOf pd17 rfl) [] rfl rfl 5 (hb hy d31_2) rfl rfl rfl all0 tri ?_
  intro v1 T1 h1 lo1 W1 K1 q1
  obtain rfl := q1.2.2
  show Gl _ _ _ _ _ _ _ _ []
  refine o_iloadN W1 6 (hb hy d31_5) rfl rfl <| o_iloadN W1 7 (hb hy d31_6) rfl rfl <| o_isub W1 (v := 4) 8 (hb hy d31_7) (by decide) rfl <| o_istoreN W1 (L' := #[vr a1, vi 0, vi 4, vi 4, un]) 9 (hb hy d31_8) rfl rfl <| o_iloadN W1 10 (hb hy d31_9) rfl rfl ?_
  refine o_newP W1 (aty := .byte) (w15 hw) tri (by decide) (cap := 4) (by decide) (by decide) 12 (hb hy d31_10) rfl (cells' := 1) (slots' := 4) rfl rfl (by decide) (by decide) (vs := [iZ, iZ, iZ, iZ]) (dv := iZ) rfl rfl ?_
  intro b2 T2 h2 k2 W2 E2 ge2 gz2 gb2 V2
  refine o_astore W2 (L' := #[vr a1, vi 0, vi 4, vi 4, vr b2]) 14 (hb hy d31_12) rfl rfl rfl <| o_aloadN W2 15 (hb hy d31_14) rfl rfl rfl <| o_iloadN W2 16 (hb hy d31_15) rfl rfl <| o_aload W2 18 (hb hy d31_16) rfl rfl rfl <| o_iconst W2 (v := 0) 19 (hb hy d31_18) rfl rfl <| o_aloadN W2 20 (hb hy d31_19) rfl rfl rfl ?_
  have c3 := ((z1.keep K1 nin0).ext E2)
  refine o_len W2 c3 21 (hb hy d31_20) rfl <| o_iloadN W2 22 (hb hy d31_21) rfl rfl <| o_isub W2 (v := 16) 23 (hb hy d31_22) (by decide) rfl <| o_iloadN W2 24 (hb hy d31_23) rfl rfl ?_
  refine o_staticC W2 (w173 hw) (w174 hw) (w175 hw) (w176 hw) (by decide) (rm51 l hw  h2 W2.old ) 4 1 4 (by decide) (by rw [hml]; rfl) (lenOf pd18 rfl) [iZ, (.ref b2), iZ, (.ref a1)] rfl rfl 27 (hb hy d31_24) rfl rfl rfl all0 tri ?_
  intro v4 T4 h4 lo4 W4 K4 q4
  obtain rfl := q4.2.2
  show Gl _ _ _ _ _ _ _ _ [(.int 4), iZ, (.ref b2), iZ, (.ref a1)]
  have c5 := (c3.keep K4 nin0)
  have c6 := (V2.keep K4 nin0)
  refine o_copy W4 (w177 hw) (w113 hw) (w111 hw) (w112 hw) c5 c6 (us := [(.int x1), (.int x2), (.int x3), (.int 62)]) (Or.inl ⟨rfl, rfl⟩) (by decide) (by decide) (by decide) (by decide) (by decide) rfl (Nat.le_of_ble_eq_true rfl) (vd' := [(.int x1), (.int x2), (.int x3), (.int 62)]) rfl gz2 (Or.inr gb2) tri (by rw [hml]; rfl) 30 (hb hy d31_27) rfl (by decide) 0 (by exact Nat.le_of_eq rfl) (by decide) ?_
  intro T7 h7 lo7 W7 K7 V7
  refine o_aload W7 32 (hb hy d31_30) rfl rfl rfl ?_
  exact o_retA W7 hlk (v := (.ref b2)) hret rfl rfl (hb hy d31_32) (by decide) (by decide) ⟨b2, k2, gb2, V7, rfl⟩
theorem rm53 (l : Launch) {Z a0} (hw : HW Z a0) (a1 : Addr) (z0 : ClassId) (x1 x2 x3 : Int32) (h0 : Heap) (O0 : Old Z Z.heap.size h0) (z1 : Arv Z h0 a1 z0 .byte 16 [(.int x1), (.int x2), (.int x3), (.int 62), iZ, iZ, iZ, iZ, iZ, iZ, iZ, iZ, iZ, iZ, iZ, iZ] iZ) :
    CtrN l Z mn24 jdk_65_method_132_code 3 (some (.array .byte)) [] (⟨2, 1, 4, 43⟩ : Room) #[(.ref a1), iZ, (.int 4)] h0 [] (fun v h => ∃ r1 : Addr, ∃ r2 : ClassId, h0.size ≤ r1 ∧ Arv Z h r1 r2 .byte 4 [(.int x1), (.int x2), (.int x3), (.int 62)] iZ ∧ v = some (.ref r1)) := by
  refine CtrN.intro (L0 := #[vr a1, vi 0, vi 4]) (plainFor_of_name pn5) O0 (own_entry rfl) ?_
  intro p e s m below meth c T0 hy hml hret hlk hnm W0
  refine o_iloadN W0 1 (hb hy d30_0) rfl rfl <| o_ifN W0 4 (hb hy d30_1) (XT.i0_ne_f (by decide)) rfl <| o_iloadN W0 5 (hb hy d30_4) rfl rfl <| o_aloadN W0 6 (hb hy d30_5) rfl rfl rfl <| o_len W0 z1 7 (hb hy d30_6) rfl <| o_icmpN W0 10 (hb hy d30_7) (XT.ii_eq_f (by decide)) rfl ?_
  refine o_aloadN W0 11 (hb hy d30_10) rfl rfl rfl <| o_iloadN W0 12 (hb hy d30_11) rfl rfl <| o_iloadN W0 13 (hb hy d30_12) rfl rfl ?_
  refine o_staticC W0 (w167 hw) (w168 hw) (w165 hw) (w169 hw) (by decide) (rm52 l hw a1 z0 x1 x2 x3 h0 W0.old z1) 0 1 4 (by decide) (by rw [hml]; rfl) (lenOf pd19 rfl) [] rfl rfl 16 (hb hy d30_13) rfl rfl rfl all0 tri ?_
  intro v1 T1 h1 lo1 W1 K1 q1
  obtain ⟨r1_1, r2_1, P1_0, P1_1, rfl⟩ := q1.2.2
  show Gl _ _ _ _ _ _ _ _ [(.ref r1_1)]
  exact o_retA W1 hlk (v := (.ref r1_1)) hret rfl rfl (hb hy d30_16) (by decide) (by decide) ⟨r1_1, r2_1, (Nat.le_trans W0.keep.1 P1_0), P1_1, rfl⟩
theorem rm54 (l : Launch) {Z a0} (hw : HW Z a0) (gCS : Int32) (a1 a2 a3 : Addr) (z0 : ClassId) (x1 x2 x3 : Int32) (h0 : Heap) (O0 : Old Z Z.heap.size h0) (z1 : Exa Z h0 a2 s2) (z2 : Fld Z h0 a2 s1 "value" "[B" (.ref a3)) (z3 : Fld Z h0 a2 s1 "count" "I" (.int 4)) (SgCS : Sta Z Z.heap s0 s3 "Z" (.int gCS)) (NgCS : ¬ (gCS = (0 : Int32))) (z4 : Fld Z h0 a2 s1 "coder" "B" iZ) (z5 : Exa Z h0 a1 s0) (z6 : Fld Z h0 a1 s0 "coder" "B" iZ) (z7 : Z.heap.size ≤ a1) (z8 : Arv Z h0 a3 z0 .byte 16 [(.int x1), (.int x2), (.int x3), (.int 62), iZ, iZ, iZ, iZ, iZ, iZ, iZ, iZ, iZ, iZ, iZ, iZ] iZ) (z9 : Fld Z h0 a1 s0 "value" "[B" .null) :
    CtrN l Z mn25 jdk_42_method_150_code 5 none [] (⟨3, 1, 4, 58⟩ : Room) #[(.ref a1), (.ref a2), .null] h0 [a1] (fun v h => ∃ r1 : Addr, ∃ r2 : ClassId, h0.size ≤ r1 ∧ Fld Z h a1 s0 "coder" "B" iZ ∧ Fld Z h a1 s0 "value" "[B" (.ref r1) ∧ Arv Z h r1 r2 .byte 4 [(.int x1), (.int x2), (.int x3), (.int 62)] iZ ∧ v = none) := by
  refine CtrN.intro (L0 := #[vr a1, vr a2, .val .null, un, un]) (plainFor_of_name pn0) O0 (own_entry rfl) ?_
  intro p e s m below meth c T0 hy hml hret hlk hnm W0
  refine o_aloadN W0 1 (hb hy d26_0) rfl rfl rfl ?_
  refine o_initO W0 (w11 hw) (w12 hw) (w13 hw) (by rw [hml]; rfl) 4 (hb hy d26_1) rfl (by decide) 0 (by exact Nat.le_of_eq rfl) (by decide) ?_
  intro T1 W1
  refine o_aloadN W1 5 (hb hy d26_4) rfl rfl rfl ?_
  refine o_virtualC W1 (w149 hw) (w150 hw) (o_nf W1 rfl (w152 hw)) (w152 hw) (w151 hw) (by decide) z1 (w153 hw) (w51 hw) (rm26 l hw a2 a3 h0 W1.old z2) 0 0 0 (by decide) (by rw [hml]; rfl) (lenOf pd16 rfl) [] rfl rfl 8 (hb hy d26_5) rfl rfl rfl all0 tri ?_
  intro v2 T2 h2 lo2 W2 K2 q2
  obtain rfl := q2.2.2
  show Gl _ _ _ _ _ _ _ _ [(.ref a3)]
  refine o_astoreN W2 (L' := #[vr a1, vr a2, .val .null, vr a3, un]) 9 (hb hy d26_8) rfl rfl rfl <| o_aloadN W2 10 (hb hy d26_9) rfl rfl rfl ?_
  have c3 := (z3.keep K2 nin0)
  have c4 := (z1.keep K2)
  refine o_virtualC W2 (w154 hw) (w155 hw) (o_nf2 W2 (y2 := mn7) rfl (w90 hw) (w92 hw)) (w157 hw) (w158 hw) (by decide) c4 (w159 hw) (w43 hw) (rm49 l hw a2 h2 W2.old c3 c4) 0 0 0 (by decide) (by rw [hml]; rfl) (lenOf pd5 rfl) [] rfl rfl 13 (hb hy d26_10) rfl rfl rfl all0 tri ?_
  intro v5 T5 h5 lo5 W5 K5 q5
  obtain rfl := q5.2.2
  show Gl _ _ _ _ _ _ _ _ [(.int 4)]
  refine o_istore W5 (L' := #[vr a1, vr a2, .val .null, vr a3, vi 4]) 15 (hb hy d26_13) rfl rfl <| o_aloadN W5 16 (hb hy d26_15) rfl rfl rfl ?_
  have c6 := ((z4.keep K2 nin0).keep K5 nin0)
  have c7 := (c4.keep K5)
  refine o_virtualC W5 (w162 hw) (w124 hw) (o_nf W5 rfl (w126 hw)) (w126 hw) (w125 hw) (by decide) c7 (w127 hw) (w51 hw) (rm21 l hw gCS a2 h5 W5.old SgCS NgCS c6) 0 0 0 (by decide) (by rw [hml]; rfl) (lenOf pd11 rfl) [] rfl rfl 19 (hb hy d26_16) rfl rfl rfl all0 tri ?_
  intro v8 T8 h8 lo8 W8 K8 q8
  obtain rfl := q8.2.2
  show Gl _ _ _ _ _ _ _ _ [(.int 1)]
  refine o_ifN W8 22 (hb hy d26_19) (XT.i0_eq_f (by decide)) rfl <| o_aloadN W8 23 (hb hy d26_22) rfl rfl rfl <| o_iconst W8 (v := 0) 24 (hb hy d26_23) rfl rfl ?_
  have c9 := (((z5.keep K2).keep K5).keep K8)
  have c10 := (((z6.keep K2 nin0).keep K5 nin0).keep K8 nin0)
  refine o_putF W8 (w21 hw) Via.refl c10 c9 (Or.inr ⟨(w17 hw), rfl, hnm⟩) (w2 hw) (ty := .byte) (v' := iZ) (by decide) rfl (by decide) z7 m0 tri 27 (hb hy d26_24) rfl ?_
  intro T11 h11 lo11 W11 R11
  have F11 := c10.same R11
  refine o_aloadN W11 28 (hb hy d26_27) rfl rfl rfl <| o_aloadN W11 29 (hb hy d26_28) rfl rfl rfl <| o_iconst W11 (v := 0) 30 (hb hy d26_29) rfl rfl <| o_iload W11 32 (hb hy d26_30) rfl rfl ?_
  have c12 := (c9.wr R11)
  have c13 := (((z8.keep K2 nin0).keep K5 nin0).keep K8 nin0)
  have c14 := ((((z8.keep K2 nin0).keep K5 nin0).keep K8 nin0).other R11 (Ne.symm (Exa.neArv c9 c13 (w2 hw))))
  refine o_staticC W11 (w163 hw) (w164 hw) (w165 hw) (w166 hw) (by decide) (rm53 l hw a3 z0 x1 x2 x3 h11 W11.old c14) 1 1 4 (by decide) (by rw [hml]; rfl) (lenOf pd19 rfl) [(.ref a1)] rfl rfl 35 (hb hy d26_32) rfl rfl rfl all0 tri ?_
  intro v15 T15 h15 lo15 W15 K15 q15
  obtain ⟨r1_15, r2_15, P15_0, P15_1, rfl⟩ := q15.2.2
  show Gl _ _ _ _ _ _ _ _ [(.ref r1_15), (.ref a1)]
  have c16 := (c12.keep K15)
  have c17 := (((((z9.keep K2 nin0).keep K5 nin0).keep K8 nin0).other R11 (Or.inr (slot_ne (Or.inr (w16 hw)) (Or.inr (w17 hw)) (by decide) (t := (.array .byte)) (t' := .byte) (by decide) (by decide)))).keep K15 nin0)
  refine o_putF W15 (w20 hw) Via.refl c17 c16 (Or.inr ⟨(w16 hw), rfl, hnm⟩) (w2 hw) (ty := (.array .byte)) (v' := (.ref r1_15)) (by decide) rfl rfl z7 m0 tri 38 (hb hy d26_35) rfl ?_
  intro T18 h18 lo18 W18 R18
  have F18 := c17.same R18
  refine o_goto W18 97 (hb hy d26_38) (by decide) rfl ?_
  have c19 := ((F11.keep K15 nin0).other R18 (Or.inr (slot_ne (Or.inr (w17 hw)) (Or.inr (w16 hw)) (by decide) (t := .byte) (t' := (.array .byte)) (by decide) (by decide))))
  have c20 := (c16.wr R18)
  have c21 := (P15_1.other R18 (own_ne' c12.lt P15_0))
  exact o_ret0 W18 hlk hret (hb hy d26_97) (by decide) (by decide) ⟨r1_15, r2_15, (Nat.le_trans W11.keep.1 P15_0), c19, F18, c21, rfl⟩
theorem rm55 (l : Launch) {Z a0} (hw : HW Z a0) (gCS : Int32) (a1 a2 a3 : Addr) (z0 : ClassId) (x1 x2 x3 : Int32) (h0 : Heap) (O0 : Old Z Z.heap.size h0) (z1 : Exa Z h0 a2 s2) (z2 : Fld Z h0 a2 s1 "value" "[B" (.ref a3)) (z3 : Fld Z h0 a2 s1 "count" "I" (.int 4)) (SgCS : Sta Z Z.heap s0 s3 "Z" (.int gCS)) (NgCS : ¬ (gCS = (0 : Int32))) (z4 : Fld Z h0 a2 s1 "coder" "B" iZ) (z5 : Exa Z h0 a1 s0) (z6 : Fld Z h0 a1 s0 "coder" "B" iZ) (z7 : Arv Z h0 a3 z0 .byte 16 [(.int x1), (.int x2), (.int x3), (.int 62), iZ, iZ, iZ, iZ, iZ, iZ, iZ, iZ, iZ, iZ, iZ, iZ] iZ) (z8 : Fld Z h0 a1 s0 "value" "[B" .null) (z9 : Z.heap.size ≤ a1) :
    CtrN l Z mn26 jdk_42_method_53_code 2 none [] (⟨4, 1, 4, 74⟩ : Room) #[(.ref a1), (.ref a2)] h0 [a1] (fun v h => ∃ r1 : Addr, ∃ r2 : ClassId, h0.size ≤ r1 ∧ Fld Z h a1 s0 "coder" "B" iZ ∧ Fld Z h a1 s0 "value" "[B" (.ref r1) ∧ Arv Z h r1 r2 .byte 4 [(.int x1), (.int x2), (.int x3), (.int 62)] iZ ∧ v = none) := by
  refine CtrN.intro (L0 := #[vr a1, vr a2]) (plainFor_of_name pn0) O0 (own_entry rfl) ?_
  intro p e s m below meth c T0 hy hml hret hlk hnm W0
  refine o_aloadN W0 1 (hb hy d25_0) rfl rfl rfl <| o_aloadN W0 2 (hb hy d25_1) rfl rfl rfl ?_
  refine o_aconstNull W0 3 (hb hy d25_2) rfl ?_
  refine o_specialC W0 rfl (w146 hw) (w147 hw) (w148 hw) (by decide) (w3 hw) (rm54 l hw gCS a1 a2 a3 z0 x1 x2 x3 h0 W0.old z1 z2 z3 SgCS NgCS z4 z5 z6 z9 z7 z8) 0 1 4 (by decide) (by rw [hml]; rfl) (lenOf pd20 rfl) [] rfl rfl 6 (hb hy d25_3) rfl rfl rfl (allS ⟨z9, m0⟩ all0) tri ?_
  intro v1 T1 h1 lo1 W1 K1 q1
  obtain ⟨r1_1, r2_1, P1_0, P1_1, P1_2, P1_3, rfl⟩ := q1.2.2
  show Gl _ _ _ _ _ _ _ _ []
  have c2 := (z5.keep K1)
  exact o_ret0 W1 hlk hret (hb hy d25_6) (by decide) (by decide) ⟨r1_1, r2_1, (Nat.le_trans W0.keep.1 P1_0), P1_1, P1_2, P1_3, rfl⟩
theorem rm56 (l : Launch) {Z a0} (hw : HW Z a0) (gCS : Int32) (a1 a2 : Addr) (z0 : ClassId) (x1 x2 x3 : Int32) (h0 : Heap) (O0 : Old Z Z.heap.size h0) (z1 : Exa Z h0 a1 s2) (z2 : Fld Z h0 a1 s1 "value" "[B" (.ref a2)) (z3 : Fld Z h0 a1 s1 "count" "I" (.int 4)) (SgCS : Sta Z Z.heap s0 s3 "Z" (.int gCS)) (NgCS : ¬ (gCS = (0 : Int32))) (z4 : Fld Z h0 a1 s1 "coder" "B" iZ) (z5 : Arv Z h0 a2 z0 .byte 16 [(.int x1), (.int x2), (.int x3), (.int 62), iZ, iZ, iZ, iZ, iZ, iZ, iZ, iZ, iZ, iZ, iZ, iZ] iZ) :
    CtrN l Z mn27 jdk_67_method_42_code 1 (some (.object s0)) [] (⟨5, 2, 8, 88⟩ : Room) #[(.ref a1)] h0 [] (fun v h => ∃ r1 : Addr, ∃ r2 : Addr, ∃ r3 : ClassId, h0.size ≤ r1 ∧ h0.size ≤ r2 ∧ Exa Z h r1 s0 ∧ Fld Z h r1 s0 "value" "[B" (.ref r2) ∧ Fld Z h r1 s0 "coder" "B" iZ ∧ Arv Z h r2 r3 .byte 4 [(.int x1), (.int x2), (.int x3), (.int 62)] iZ ∧ v = some (.ref r1)) := by
  refine CtrN.intro (L0 := #[vr a1]) (plainFor_of_name pn2) O0 (own_entry rfl) ?_
  intro p e s m below meth c T0 hy hml hret hlk hnm W0
  refine o_new W0 (w142 hw) (w2 hw) (w3 hw) tri 3 (hb hy d24_0) rfl (cells' := 1) (slots' := 4) rfl rfl (by decide) (by decide) ?_
  intro b1 T1 h1 W1 E1 ge1 gz1 gb1 A1 D1
  have Fb1_value : Fld Z h1 b1 s0 "value" "[B" .null := D1 (Or.inr (w16 hw)) (ty := (.array .byte)) (by decide)
  have Fb1_coder : Fld Z h1 b1 s0 "coder" "B" iZ := D1 (Or.inr (w17 hw)) (ty := .byte) (by decide)
  refine o_dup W1 4 (hb hy d24_3) rfl rfl <| o_aloadN W1 5 (hb hy d24_4) rfl rfl rfl ?_
  have c2 := (z1.ext E1)
  have c3 := (z2.ext E1)
  have c4 := (z3.ext E1)
  have c5 := (z4.ext E1)
  have c6 := (z5.ext E1)
  refine o_specialC W1 rfl (w143 hw) (w144 hw) (w145 hw) (by decide) (w3 hw) (rm55 l hw gCS b1 a1 a2 z0 x1 x2 x3 h1 W1.old c2 c3 c4 SgCS NgCS c5 A1 Fb1_coder c6 Fb1_value gz1) 1 2 8 (by decide) (by rw [hml]; rfl) (lenOf pd21 rfl) [(.ref b1)] rfl rfl 8 (hb hy d24_5) rfl rfl rfl (allS ⟨gz1, (Or.inr gb1)⟩ all0) tri ?_
  intro v7 T7 h7 lo7 W7 K7 q7
  obtain ⟨r1_7, r2_7, P7_0, P7_1, P7_2, P7_3, rfl⟩ := q7.2.2
  show Gl _ _ _ _ _ _ _ _ [(.ref b1)]
  have c8 := (A1.keep K7)
  exact o_retA W7 hlk (v := (.ref b1)) hret rfl rfl (hb hy d24_8) (by decide) (by decide) ⟨b1, r1_7, r2_7, gb1, (Nat.le_trans W1.keep.1 P7_0), c8, P7_2, P7_1, P7_3, rfl⟩
theorem rm57 (l : Launch) {Z a0} (hw : HW Z a0) (gCS : Int32) (a1 a2 a3 : Addr) (z0 : ClassId) (x1 x2 x3 : Int32) (h0 : Heap) (O0 : Old Z Z.heap.size h0) (z1 : Fld Z h0 a1 s4 "out" s5 (.ref a2)) (z2 : Exa Z h0 a2 s2) (z3 : Fld Z h0 a2 s1 "value" "[B" (.ref a3)) (z4 : Fld Z h0 a2 s1 "count" "I" (.int 4)) (SgCS : Sta Z Z.heap s0 s3 "Z" (.int gCS)) (NgCS : ¬ (gCS = (0 : Int32))) (z5 : Fld Z h0 a2 s1 "coder" "B" iZ) (z6 : Arv Z h0 a3 z0 .byte 16 [(.int x1), (.int x2), (.int x3), (.int 62), iZ, iZ, iZ, iZ, iZ, iZ, iZ, iZ, iZ, iZ, iZ, iZ] iZ) :
    CtrN l Z mn28 prog_5_method_8_code 1 (some (.object s0)) [] (⟨6, 2, 8, 100⟩ : Room) #[(.ref a1)] h0 [] (fun v h => ∃ r1 : Addr, ∃ r2 : Addr, ∃ r3 : ClassId, h0.size ≤ r1 ∧ h0.size ≤ r2 ∧ Exa Z h r1 s0 ∧ Fld Z h r1 s0 "value" "[B" (.ref r2) ∧ Fld Z h r1 s0 "coder" "B" iZ ∧ Arv Z h r2 r3 .byte 4 [(.int x1), (.int x2), (.int x3), (.int 62)] iZ ∧ v = some (.ref r1)) := by
  refine CtrN.intro (L0 := #[vr a1]) (plainFor_of_name pn3) O0 (own_entry rfl) ?_
  intro p e s m below meth c T0 hy hml hret hlk hnm W0
  refine o_aloadN W0 1 (hb hy d23_0) rfl rfl rfl ?_
  refine o_getF W0 (w59 hw) Via.refl z1 4 (hb hy d23_1) rfl ?_
  intro T1 W1
  refine o_virtualC W1 (w137 hw) (w138 hw) (o_nf W1 rfl (w140 hw)) (w140 hw) (w139 hw) (by decide) z2 (w141 hw) (w43 hw) (rm56 l hw gCS a2 a3 z0 x1 x2 x3 h0 W1.old z2 z3 z4 SgCS NgCS z5 z6) 0 2 8 (by decide) (by rw [hml]; rfl) (lenOf pd22 rfl) [] rfl rfl 7 (hb hy d23_4) rfl rfl rfl all0 tri ?_
  intro v2 T2 h2 lo2 W2 K2 q2
  obtain ⟨r1_2, r2_2, r3_2, P2_0, P2_1, P2_2, P2_3, P2_4, P2_5, rfl⟩ := q2.2.2
  show Gl _ _ _ _ _ _ _ _ [(.ref r1_2)]
  exact o_retA W2 hlk (v := (.ref r1_2)) hret rfl rfl (hb hy d23_7) (by decide) (by decide) ⟨r1_2, r2_2, r3_2, (Nat.le_trans W1.keep.1 P2_0), (Nat.le_trans W1.keep.1 P2_1), P2_2, P2_3, P2_4, P2_5, rfl⟩
theorem rm58 (l : Launch) {Z a0} (hw : HW Z a0) (a1 a2 : Addr) (z0 : ClassId) (x1 : Int32) (z1 : ClassId) (x2 x3 x4 : Int32) (h0 : Heap) (O0 : Old Z Z.heap.size h0) (z2 : Arv Z h0 a1 z0 .byte 4 [(.int (b8 60)), (.int (b8 47)), (.int (b8 x1)), (.int (b8 62))] iZ) (z3 : Arv Z h0 a2 z1 .byte 4 [(.int x2), (.int x3), (.int x4), (.int 62)] iZ) (hc1 : (b8 60) = x2) (hc2 : (b8 47) = x3) (hc3 : (b8 x1) = x4) :
    CtrN l Z mn29 jdk_43_method_13_code 3 (some .boolean) [] (⟨0, 0, 0, 0⟩ : Room) #[(.ref a1), (.ref a2)] h0 [] (fun v h => v = some (.int 1)) := by
  refine CtrN.intro (L0 := #[vr a1, vr a2, un]) (plainFor_of_name pn4) O0 (own_entry rfl) ?_
  intro p e s m below meth c T0 hy hml hret hlk hnm W0
  refine o_aloadN W0 1 (hb hy d35_0) rfl rfl rfl <| o_len W0 z2 2 (hb hy d35_1) rfl <| o_aloadN W0 3 (hb hy d35_2) rfl rfl rfl <| o_len W0 z3 4 (hb hy d35_3) rfl <| o_icmpN W0 7 (hb hy d35_4) (XT.ii_ne_f (by decide)) rfl <| o_iconst W0 (v := 0) 8 (hb hy d35_7) rfl rfl ?_
  refine o_istoreN W0 (L' := #[vr a1, vr a2, vi 0]) 9 (hb hy d35_8) rfl rfl <| o_iloadN W0 10 (hb hy d35_9) rfl rfl <| o_aloadN W0 11 (hb hy d35_10) rfl rfl rfl <| o_len W0 z2 12 (hb hy d35_11) rfl <| o_icmpN W0 15 (hb hy d35_12) (XT.ii_ge_f (by decide)) rfl <| o_aloadN W0 16 (hb hy d35_15) rfl rfl rfl ?_
  refine o_iloadN W0 17 (hb hy d35_16) rfl rfl <| o_baload W0 z2 (x := (b8 60)) (i := 0) (by decide) (by decide) (by decide) rfl 18 (hb hy d35_17) rfl <| o_aloadN W0 19 (hb hy d35_18) rfl rfl rfl <| o_iloadN W0 20 (hb hy d35_19) rfl rfl <| o_baload W0 z3 (x := x2) (i := 0) (by decide) (by decide) (by decide) rfl 21 (hb hy d35_20) rfl <| o_icmpY W0 26 (hb hy d35_21) (XT.ii_eq_t hc1) (by decide) rfl ?_
  refine o_iinc W0 (v := 1) (L' := #[vr a1, vr a2, vi 1]) 29 (hb hy d35_26) rfl (by decide) rfl rfl <| o_goto W0 9 (hb hy d35_29) (by decide) rfl <| o_iloadN W0 10 (hb hy d35_9) rfl rfl <| o_aloadN W0 11 (hb hy d35_10) rfl rfl rfl <| o_len W0 z2 12 (hb hy d35_11) rfl <| o_icmpN W0 15 (hb hy d35_12) (XT.ii_ge_f (by decide)) rfl ?_
  refine o_aloadN W0 16 (hb hy d35_15) rfl rfl rfl <| o_iloadN W0 17 (hb hy d35_16) rfl rfl <| o_baload W0 z2 (x := (b8 47)) (i := 1) (by decide) (by decide) (by decide) rfl 18 (hb hy d35_17) rfl <| o_aloadN W0 19 (hb hy d35_18) rfl rfl rfl <| o_iloadN W0 20 (hb hy d35_19) rfl rfl <| o_baload W0 z3 (x := x3) (i := 1) (by decide) (by decide) (by decide) rfl 21 (hb hy d35_20) rfl ?_
  refine o_icmpY W0 26 (hb hy d35_21) (XT.ii_eq_t hc2) (by decide) rfl <| o_iinc W0 (v := 2) (L' := #[vr a1, vr a2, vi 2]) 29 (hb hy d35_26) rfl (by decide) rfl rfl <| o_goto W0 9 (hb hy d35_29) (by decide) rfl <| o_iloadN W0 10 (hb hy d35_9) rfl rfl <| o_aloadN W0 11 (hb hy d35_10) rfl rfl rfl <| o_len W0 z2 12 (hb hy d35_11) rfl ?_
  refine o_icmpN W0 15 (hb hy d35_12) (XT.ii_ge_f (by decide)) rfl <| o_aloadN W0 16 (hb hy d35_15) rfl rfl rfl <| o_iloadN W0 17 (hb hy d35_16) rfl rfl <| o_baload W0 z2 (x := (b8 x1)) (i := 2) (by decide) (by decide) (by decide) rfl 18 (hb hy d35_17) rfl <| o_aloadN W0 19 (hb hy d35_18) rfl rfl rfl <| o_iloadN W0 20 (hb hy d35_19) rfl rfl ?_
  refine o_baload W0 z3 (x := x4) (i := 2) (by decide) (by decide) (by decide) rfl 21 (hb hy d35_20) rfl <| o_icmpY W0 26 (hb hy d35_21) (XT.ii_eq_t hc3) (by decide) rfl <| o_iinc W0 (v := 3) (L' := #[vr a1, vr a2, vi 3]) 29 (hb hy d35_26) rfl (by decide) rfl rfl <| o_goto W0 9 (hb hy d35_29) (by decide) rfl <| o_iloadN W0 10 (hb hy d35_9) rfl rfl <| o_aloadN W0 11 (hb hy d35_10) rfl rfl rfl ?_
  refine o_len W0 z2 12 (hb hy d35_11) rfl <| o_icmpN W0 15 (hb hy d35_12) (XT.ii_ge_f (by decide)) rfl <| o_aloadN W0 16 (hb hy d35_15) rfl rfl rfl <| o_iloadN W0 17 (hb hy d35_16) rfl rfl <| o_baload W0 z2 (x := (b8 62)) (i := 3) (by decide) (by decide) (by decide) rfl 18 (hb hy d35_17) rfl <| o_aloadN W0 19 (hb hy d35_18) rfl rfl rfl ?_
  refine o_iloadN W0 20 (hb hy d35_19) rfl rfl <| o_baload W0 z3 (x := (62 : Int32)) (i := 3) (by decide) (by decide) (by decide) rfl 21 (hb hy d35_20) rfl <| o_icmpY W0 26 (hb hy d35_21) (XT.ii_eq_t (by decide)) (by decide) rfl <| o_iinc W0 (v := 4) (L' := #[vr a1, vr a2, vi 4]) 29 (hb hy d35_26) rfl (by decide) rfl rfl <| o_goto W0 9 (hb hy d35_29) (by decide) rfl <| o_iloadN W0 10 (hb hy d35_9) rfl rfl ?_
  refine o_aloadN W0 11 (hb hy d35_10) rfl rfl rfl <| o_len W0 z2 12 (hb hy d35_11) rfl <| o_icmpY W0 32 (hb hy d35_12) (XT.ii_ge_t (by decide)) (by decide) rfl <| o_iconst W0 (v := 1) 33 (hb hy d35_32) rfl rfl ?_
  exact o_retN W0 hlk (t := .boolean) hret (by simp) (z' := (1 : Int32)) (by decide) (hb hy d35_33) (by decide) (by decide) rfl
theorem rm59 (l : Launch) {Z a0} (hw : HW Z a0) (gCS : Int32) (a1 a2 a3 a4 : Addr) (z0 : ClassId) (x1 : Int32) (z1 : ClassId) (x2 x3 x4 : Int32) (h0 : Heap) (O0 : Old Z Z.heap.size h0) (z2 : Exa Z h0 a1 s0) (z3 : Exa Z h0 a2 s0) (z4 : a1 ≠ a2) (SgCS : Sta Z Z.heap s0 s3 "Z" (.int gCS)) (NgCS : ¬ (gCS = (0 : Int32))) (z5 : Fld Z h0 a1 s0 "coder" "B" iZ) (z6 : Fld Z h0 a2 s0 "coder" "B" iZ) (z7 : Fld Z h0 a1 s0 "value" "[B" (.ref a3)) (z8 : Fld Z h0 a2 s0 "value" "[B" (.ref a4)) (z9 : Arv Z h0 a3 z0 .byte 4 [(.int (b8 60)), (.int (b8 47)), (.int (b8 x1)), (.int (b8 62))] iZ) (z10 : Arv Z h0 a4 z1 .byte 4 [(.int x2), (.int x3), (.int x4), (.int 62)] iZ) (hc8 : (b8 60) = x2) (hc9 : (b8 47) = x3) (hc10 : (b8 x1) = x4) :
    CtrN l Z mn30 jdk_42_method_66_code 3 (some .boolean) [] (⟨1, 0, 0, 14⟩ : Room) #[(.ref a1), (.ref a2)] h0 [] (fun v h => v = some (.int 1)) := by
  refine CtrN.intro (L0 := #[vr a1, vr a2, un]) (plainFor_of_name pn0) O0 (own_entry rfl) ?_
  intro p e s m below meth c T0 hy hml hret hlk hnm W0
  refine o_aloadN W0 1 (hb hy d34_0) rfl rfl rfl <| o_aloadN W0 2 (hb hy d34_1) rfl rfl rfl ?_
  refine o_acmpY W0 7 (hb hy d34_2) rfl rfl (XT.aa_ne_t (fun q => z4 (Value.ref.inj q))) (by decide) rfl ?_
  refine o_aloadN W0 8 (hb hy d34_7) rfl rfl rfl ?_
  refine o_instY W0 (w183 hw) (Ins.self z3) 11 (hb hy d34_8) rfl ?_
  intro T1 W1
  refine o_ifN W1 14 (hb hy d34_11) (XT.i0_eq_f (by decide)) rfl <| o_aloadN W1 15 (hb hy d34_14) rfl rfl rfl ?_
  refine o_cast W1 (w183 hw) (Ins.self z3) 18 (hb hy d34_15) rfl ?_
  intro T2 W2
  refine o_astoreN W2 (L' := #[vr a1, vr a2, vr a2]) 19 (hb hy d34_18) rfl rfl rfl ?_
  refine o_getS W2 (w22 hw) Via.refl (SgCS.ext W2.ox) 22 (hb hy d34_19) rfl ?_
  intro T3 W3
  refine o_ifN W3 25 (hb hy d34_22) (XT.i0_eq_f NgCS) rfl <| o_aloadN W3 26 (hb hy d34_25) rfl rfl rfl ?_
  refine o_getF W3 (w21 hw) Via.refl z5 29 (hb hy d34_26) rfl ?_
  intro T4 W4
  refine o_aloadN W4 30 (hb hy d34_29) rfl rfl rfl ?_
  refine o_getF W4 (w21 hw) Via.refl z6 33 (hb hy d34_30) rfl ?_
  intro T5 W5
  refine o_icmpN W5 36 (hb hy d34_33) (XT.ii_ne_f (by decide)) rfl <| o_aloadN W5 37 (hb hy d34_36) rfl rfl rfl ?_
  refine o_getF W5 (w20 hw) Via.refl z7 40 (hb hy d34_37) rfl ?_
  intro T6 W6
  refine o_aloadN W6 41 (hb hy d34_40) rfl rfl rfl ?_
  refine o_getF W6 (w20 hw) Via.refl z8 44 (hb hy d34_41) rfl ?_
  intro T7 W7
  refine o_staticC W7 (w184 hw) (w185 hw) (w130 hw) (w186 hw) (by decide) (rm58 l hw a3 a4 z0 x1 z1 x2 x3 x4 h0 W7.old z9 z10 hc8 hc9 hc10) 0 0 0 (by decide) (by rw [hml]; rfl) (lenOf pd23 rfl) [] rfl rfl 47 (hb hy d34_44) rfl rfl rfl all0 tri ?_
  intro v11 T11 h11 lo11 W11 K11 q11
  obtain rfl := q11.2.2
  show Gl _ _ _ _ _ _ _ _ [(.int 1)]
  refine o_ifN W11 50 (hb hy d34_47) (XT.i0_eq_f (by decide)) rfl <| o_iconst W11 (v := 1) 51 (hb hy d34_50) rfl rfl <| o_goto W11 55 (hb hy d34_51) (by decide) rfl ?_
  exact o_retN W11 hlk (t := .boolean) hret (by simp) (z' := (1 : Int32)) (by decide) (hb hy d34_55) (by decide) (by decide) rfl
theorem rm60 (l : Launch) {Z a0} (hw : HW Z a0) (gCS : Int32) (a1 a2 : Addr) (z0 : ClassId) (x1 x2 : Int32) (h0 : Heap) (O0 : Old Z Z.heap.size h0) (z1 : Fld Z h0 a1 s0 "value" "[B" (.ref a2)) (z2 : Arv Z h0 a2 z0 .byte 2 [(.int (b8 x1)), (.int (b8 x2))] iZ) (z3 : Exa Z h0 a1 s0) (SgCS : Sta Z Z.heap s0 s3 "Z" (.int gCS)) (NgCS : ¬ (gCS = (0 : Int32))) (z4 : Fld Z h0 a1 s0 "coder" "B" iZ) :
    CtrN l Z mn6 jdk_42_method_54_code 1 (some .int) [] (⟨1, 0, 0, 13⟩ : Room) #[(.ref a1)] h0 [] (fun v h => v = some (.int 2)) := by
  refine CtrN.intro (L0 := #[vr a1]) (plainFor_of_name pn0) O0 (own_entry rfl) ?_
  intro p e s m below meth c T0 hy hml hret hlk hnm W0
  refine o_aloadN W0 1 (hb hy d13_0) rfl rfl rfl ?_
  refine o_getF W0 (w20 hw) Via.refl z1 4 (hb hy d13_1) rfl ?_
  intro T1 W1
  refine o_len W1 z2 5 (hb hy d13_4) rfl <| o_aloadN W1 6 (hb hy d13_5) rfl rfl rfl ?_
  refine o_virtualC W1 (w82 hw) (w83 hw) (o_nf W1 rfl (w85 hw)) (w85 hw) (w84 hw) (by decide) z3 (w86 hw) (w3 hw) (rm6 l hw gCS a1 h0 W1.old SgCS NgCS z4) 1 0 0 (by decide) (by rw [hml]; rfl) (lenOf pd4 rfl) [(.int 2)] rfl rfl 9 (hb hy d13_6) rfl rfl rfl all0 tri ?_
  intro v2 T2 h2 lo2 W2 K2 q2
  obtain rfl := q2.2.2
  show Gl _ _ _ _ _ _ _ _ [iZ, (.int 2)]
  refine o_ishr W2 (v := 2) 10 (hb hy d13_9) (by decide) rfl ?_
  exact o_retI W2 hlk hret (hb hy d13_10) (by decide) (by decide) rfl
theorem rm61 (l : Launch) {Z a0} (hw : HW Z a0) (a1 a2 : Addr) (z0 : ClassId) (x1 x2 : Int32) (h0 : Heap) (O0 : Old Z Z.heap.size h0) (z1 : Fld Z h0 a1 s1 "value" "[B" (.ref a2)) (z2 : Arv Z h0 a2 z0 .byte 16 [(.int x1), (.int x2), iZ, iZ, iZ, iZ, iZ, iZ, iZ, iZ, iZ, iZ, iZ, iZ, iZ, iZ] iZ) (z3 : Fld Z h0 a1 s1 "coder" "B" iZ) :
    CtrN l Z mn7 jdk_68_method_9_code 3 none [] (⟨0, 0, 0, 0⟩ : Room) #[(.ref a1), (.int 4)] h0 [] (fun v h => v = none) := by
  refine CtrN.intro (L0 := #[vr a1, vi 4, un]) (plainFor_of_name pn1) O0 (own_entry rfl) ?_
  intro p e s m below meth c T0 hy hml hret hlk hnm W0
  refine o_aloadN W0 1 (hb hy d15_0) rfl rfl rfl ?_
  refine o_getF W0 (w55 hw) Via.refl z1 4 (hb hy d15_1) rfl ?_
  intro T1 W1
  refine o_len W1 z2 5 (hb hy d15_4) rfl <| o_aloadN W1 6 (hb hy d15_5) rfl rfl rfl ?_
  refine o_getF W1 (w57 hw) Via.refl z3 9 (hb hy d15_6) rfl ?_
  intro T2 W2
  refine o_ishr W2 (v := 16) 10 (hb hy d15_9) (by decide) rfl <| o_istoreN W2 (L' := #[vr a1, vi 4, vi 16]) 11 (hb hy d15_10) rfl rfl <| o_iloadN W2 12 (hb hy d15_11) rfl rfl <| o_iloadN W2 13 (hb hy d15_12) rfl rfl <| o_isub W2 (v := (-12 : Int32)) 14 (hb hy d15_13) (by decide) rfl <| o_ifY W2 38 (hb hy d15_14) (XT.i0_le_t (by decide)) (by decide) rfl ?_
  exact o_ret0 W2 hlk hret (hb hy d15_38) (by decide) (by decide) rfl
theorem rm62 (l : Launch) {Z a0} (hw : HW Z a0) (gCS : Int32) (a1 a2 a3 : Addr) (z0 : ClassId) (x1 x2 : Int32) (z1 : ClassId) (x3 x4 : Int32) (h0 : Heap) (O0 : Old Z Z.heap.size h0) (z2 : Exa Z h0 a1 s0) (SgCS : Sta Z Z.heap s0 s3 "Z" (.int gCS)) (NgCS : ¬ (gCS = (0 : Int32))) (z3 : Fld Z h0 a1 s0 "coder" "B" iZ) (z4 : Fld Z h0 a1 s0 "value" "[B" (.ref a3)) (z5 : Arv Z h0 a3 z0 .byte 2 [(.int (b8 x1)), (.int (b8 x2))] iZ) (z6 : Arv Z h0 a2 z1 .byte 16 [(.int x3), (.int x4), iZ, iZ, iZ, iZ, iZ, iZ, iZ, iZ, iZ, iZ, iZ, iZ, iZ, iZ] iZ) (z7 : Z.heap.size ≤ a2) :
    CtrN l Z mn9 jdk_42_method_147_code 4 none [] (⟨1, 0, 0, 27⟩ : Room) #[(.ref a1), (.ref a2), (.int 2), iZ] h0 [a2] (fun v h => Arv Z h a2 z1 .byte 16 [(.int x3), (.int x4), (.int (b8 x1)), (.int (b8 x2)), iZ, iZ, iZ, iZ, iZ, iZ, iZ, iZ, iZ, iZ, iZ, iZ] iZ ∧ v = none) := by
  refine CtrN.intro (L0 := #[vr a1, vr a2, vi 2, vi 0]) (plainFor_of_name pn0) O0 (own_entry rfl) ?_
  intro p e s m below meth c T0 hy hml hret hlk hnm W0
  refine o_aloadN W0 1 (hb hy d18_0) rfl rfl rfl ?_
  refine o_virtualC W0 (w82 hw) (w83 hw) (o_nf W0 rfl (w85 hw)) (w85 hw) (w84 hw) (by decide) z2 (w86 hw) (w3 hw) (rm6 l hw gCS a1 h0 W0.old SgCS NgCS z3) 0 0 0 (by decide) (by rw [hml]; rfl) (lenOf pd4 rfl) [] rfl rfl 4 (hb hy d18_1) rfl rfl rfl all0 tri ?_
  intro v1 T1 h1 lo1 W1 K1 q1
  obtain rfl := q1.2.2
  show Gl _ _ _ _ _ _ _ _ [iZ]
  refine o_iloadN W1 5 (hb hy d18_4) rfl rfl <| o_icmpN W1 8 (hb hy d18_5) (XT.ii_ne_f (by decide)) rfl <| o_aloadN W1 9 (hb hy d18_8) rfl rfl rfl ?_
  have c2 := (z4.keep K1 nin0)
  refine o_getF W1 (w20 hw) Via.refl c2 12 (hb hy d18_9) rfl ?_
  intro T3 W3
  refine o_iconst W3 (v := 0) 13 (hb hy d18_12) rfl rfl <| o_aloadN W3 14 (hb hy d18_13) rfl rfl rfl <| o_iloadN W3 15 (hb hy d18_14) rfl rfl <| o_iloadN W3 16 (hb hy d18_15) rfl rfl <| o_ishl W3 (v := 2) 17 (hb hy d18_16) (by decide) rfl <| o_aloadN W3 18 (hb hy d18_17) rfl rfl rfl ?_
  refine o_getF W3 (w20 hw) Via.refl c2 21 (hb hy d18_18) rfl ?_
  intro T4 W4
  have c5 := (z5.keep K1 nin0)
  refine o_len W4 c5 22 (hb hy d18_21) rfl ?_
  have c6 := (z6.keep K1 nin0)
  refine o_copy W4 (w110 hw) (w113 hw) (w111 hw) (w112 hw) c5 c6 (us := [(.int (b8 x1)), (.int (b8 x2))]) (Or.inl ⟨rfl, rfl⟩) (by decide) (by decide) (by decide) (by decide) (by decide) rfl (Nat.le_of_ble_eq_true rfl) (vd' := [(.int x3), (.int x4), (.int (b8 x1)), (.int (b8 x2)), iZ, iZ, iZ, iZ, iZ, iZ, iZ, iZ, iZ, iZ, iZ, iZ]) rfl z7 m0 tri (by rw [hml]; rfl) 25 (hb hy d18_22) rfl (by decide) 0 (by exact Nat.le_of_eq rfl) (by decide) ?_
  intro T7 h7 lo7 W7 K7 V7
  refine o_goto W7 43 (hb hy d18_25) (by decide) rfl ?_
  exact o_ret0 W7 hlk hret (hb hy d18_43) (by decide) (by decide) ⟨V7, rfl⟩
theorem rm63 (l : Launch) {Z a0} (hw : HW Z a0) (gCS : Int32) (a1 a2 a3 a4 : Addr) (z0 : ClassId) (x1 x2 : Int32) (z1 : ClassId) (x3 x4 : Int32) (h0 : Heap) (O0 : Old Z Z.heap.size h0) (z2 : Exa Z h0 a1 s2) (SgCS : Sta Z Z.heap s0 s3 "Z" (.int gCS)) (NgCS : ¬ (gCS = (0 : Int32))) (z3 : Fld Z h0 a1 s1 "coder" "B" iZ) (z4 : Exa Z h0 a2 s0) (z5 : Fld Z h0 a2 s0 "coder" "B" iZ) (z6 : Fld Z h0 a1 s1 "value" "[B" (.ref a3)) (z7 : Fld Z h0 a2 s0 "value" "[B" (.ref a4)) (z8 : Arv Z h0 a4 z0 .byte 2 [(.int (b8 x1)), (.int (b8 x2))] iZ) (z9 : Arv Z h0 a3 z1 .byte 16 [(.int x3), (.int x4), iZ, iZ, iZ, iZ, iZ, iZ, iZ, iZ, iZ, iZ, iZ, iZ, iZ, iZ] iZ) (z10 : Z.heap.size ≤ a3) :
    CtrN l Z mn10 jdk_68_method_73_code 3 none [] (⟨2, 0, 0, 42⟩ : Room) #[(.ref a1), (.int 2), (.ref a2)] h0 [a3] (fun v h => Arv Z h a3 z1 .byte 16 [(.int x3), (.int x4), (.int (b8 x1)), (.int (b8 x2)), iZ, iZ, iZ, iZ, iZ, iZ, iZ, iZ, iZ, iZ, iZ, iZ] iZ ∧ v = none) := by
  refine CtrN.intro (L0 := #[vr a1, vi 2, vr a2]) (plainFor_of_name pn1) O0 (own_entry rfl) ?_
  intro p e s m below meth c T0 hy hml hret hlk hnm W0
  refine o_aloadN W0 1 (hb hy d16_0) rfl rfl rfl <| o_aloadN W0 2 (hb hy d16_1) rfl rfl rfl ?_
  refine o_privateC W0 (w99 hw) (w100 hw) (w102 hw) (w101 hw) (w103 hw) (by decide) z2 (w51 hw) (rm9 l hw gCS a1 a2 h0 W0.old SgCS NgCS z3 z4 z5) 0 0 0 (by decide) (by rw [hml]; rfl) (lenOf pd6 rfl) [] rfl rfl 5 (hb hy d16_2) rfl rfl rfl all0 tri ?_
  intro v1 T1 h1 lo1 W1 K1 q1
  obtain rfl := q1.2.2
  show Gl _ _ _ _ _ _ _ _ []
  refine o_aloadN W1 6 (hb hy d16_5) rfl rfl rfl <| o_aloadN W1 7 (hb hy d16_6) rfl rfl rfl ?_
  have c2 := (z6.keep K1 nin0)
  refine o_getF W1 (w55 hw) Via.refl c2 10 (hb hy d16_7) rfl ?_
  intro T3 W3
  refine o_iloadN W3 11 (hb hy d16_10) rfl rfl <| o_aloadN W3 12 (hb hy d16_11) rfl rfl rfl ?_
  have c4 := (z3.keep K1 nin0)
  refine o_getF W3 (w57 hw) Via.refl c4 15 (hb hy d16_12) rfl ?_
  intro T5 W5
  have c6 := (z5.keep K1 nin0)
  have c7 := (z7.keep K1 nin0)
  have c8 := (z8.keep K1 nin0)
  have c9 := (z9.keep K1 nin0)
  have c10 := (z4.keep K1)
  refine o_virtualC W5 (w105 hw) (w106 hw) (o_nf W5 rfl (w108 hw)) (w108 hw) (w107 hw) (by decide) c10 (w109 hw) (w3 hw) (rm62 l hw gCS a2 a3 a4 z0 x1 x2 z1 x3 x4 h1 W5.old c10 SgCS NgCS c6 c7 c8 c9 z10) 0 0 0 (by decide) (by rw [hml]; rfl) (lenOf pd7 rfl) [] rfl rfl 18 (hb hy d16_15) rfl rfl rfl (allS ⟨z10, m0⟩ all0) tri ?_
  intro v11 T11 h11 lo11 W11 K11 q11
  obtain ⟨P11_0, rfl⟩ := q11.2.2
  show Gl _ _ _ _ _ _ _ _ []
  exact o_ret0 W11 hlk hret (hb hy d16_18) (by decide) (by decide) ⟨P11_0, rfl⟩
theorem rm64 (l : Launch) {Z a0} (hw : HW Z a0) (gCS : Int32) (a1 a2 a3 : Addr) (z0 : ClassId) (x1 x2 : Int32) (a4 : Addr) (z1 : ClassId) (x3 x4 : Int32) (h0 : Heap) (O0 : Old Z Z.heap.size h0) (z2 : Exa Z h0 a2 s0) (z3 : Fld Z h0 a2 s0 "value" "[B" (.ref a3)) (z4 : Arv Z h0 a3 z0 .byte 2 [(.int (b8 x1)), (.int (b8 x2))] iZ) (SgCS : Sta Z Z.heap s0 s3 "Z" (.int gCS)) (NgCS : ¬ (gCS = (0 : Int32))) (z5 : Fld Z h0 a2 s0 "coder" "B" iZ) (z6 : Fld Z h0 a1 s1 "count" "I" (.int 2)) (z7 : Exa Z h0 a1 s2) (z8 : Fld Z h0 a1 s1 "value" "[B" (.ref a4)) (z9 : Arv Z h0 a4 z1 .byte 16 [(.int x3), (.int x4), iZ, iZ, iZ, iZ, iZ, iZ, iZ, iZ, iZ, iZ, iZ, iZ, iZ, iZ] iZ) (z10 : Fld Z h0 a1 s1 "coder" "B" iZ) (z11 : Z.heap.size ≤ a4) (z12 : Z.heap.size ≤ a1) :
    CtrN l Z mn11 jdk_68_method_22_code 3 (some (.object s1)) [] (⟨3, 0, 0, 56⟩ : Room) #[(.ref a1), (.ref a2)] h0 [a4, a1] (fun v h => Fld Z h a1 s1 "count" "I" (.int 4) ∧ Fld Z h a1 s1 "value" "[B" (.ref a4) ∧ Arv Z h a4 z1 .byte 16 [(.int x3), (.int x4), (.int (b8 x1)), (.int (b8 x2)), iZ, iZ, iZ, iZ, iZ, iZ, iZ, iZ, iZ, iZ, iZ, iZ] iZ ∧ Fld Z h a1 s1 "coder" "B" iZ ∧ v = some (.ref a1)) := by
  refine CtrN.intro (L0 := #[vr a1, vr a2, un]) (plainFor_of_name pn1) O0 (own_entry rfl) ?_
  intro p e s m below meth c T0 hy hml hret hlk hnm W0
  refine o_aloadN W0 1 (hb hy d12_0) rfl rfl rfl ?_
  refine o_ifnonnullY W0 9 (hb hy d12_1) (by decide) rfl ?_
  refine o_aloadN W0 10 (hb hy d12_9) rfl rfl rfl ?_
  refine o_virtualC W0 (w77 hw) (w78 hw) (o_nf W0 rfl (w80 hw)) (w80 hw) (w79 hw) (by decide) z2 (w81 hw) (w3 hw) (rm60 l hw gCS a2 a3 z0 x1 x2 h0 W0.old z3 z4 z2 SgCS NgCS z5) 0 0 0 (by decide) (by rw [hml]; rfl) (lenOf pd5 rfl) [] rfl rfl 13 (hb hy d12_10) rfl rfl rfl all0 tri ?_
  intro v1 T1 h1 lo1 W1 K1 q1
  obtain rfl := q1.2.2
  show Gl _ _ _ _ _ _ _ _ [(.int 2)]
  refine o_istoreN W1 (L' := #[vr a1, vr a2, vi 2]) 14 (hb hy d12_13) rfl rfl <| o_aloadN W1 15 (hb hy d12_14) rfl rfl rfl <| o_aloadN W1 16 (hb hy d12_15) rfl rfl rfl ?_
  have c2 := (z6.keep K1 nin0)
  refine o_getF W1 (w87 hw) Via.refl c2 19 (hb hy d12_16) rfl ?_
  intro T3 W3
  refine o_iloadN W3 20 (hb hy d12_19) rfl rfl <| o_iadd W3 (v := 4) 21 (hb hy d12_20) (by decide) rfl ?_
  have c4 := (z7.keep K1)
  have c5 := (z8.keep K1 nin0)
  have c6 := (z9.keep K1 nin0)
  have c7 := (z10.keep K1 nin0)
  refine o_privateC W3 (w89 hw) (w90 hw) (w92 hw) (w91 hw) (w93 hw) (by decide) c4 (w51 hw) (rm61 l hw a1 a4 z1 x3 x4 h1 W3.old c5 c6 c7) 0 0 0 (by decide) (by rw [hml]; rfl) (lenOf pd2 rfl) [] rfl rfl 24 (hb hy d12_21) rfl rfl rfl all0 tri ?_
  intro v8 T8 h8 lo8 W8 K8 q8
  obtain rfl := q8.2.2
  show Gl _ _ _ _ _ _ _ _ []
  refine o_aloadN W8 25 (hb hy d12_24) rfl rfl rfl <| o_aloadN W8 26 (hb hy d12_25) rfl rfl rfl ?_
  have c9 := (c2.keep K8 nin0)
  refine o_getF W8 (w87 hw) Via.refl c9 29 (hb hy d12_26) rfl ?_
  intro T10 W10
  refine o_aloadN W10 30 (hb hy d12_29) rfl rfl rfl ?_
  have c11 := (c7.keep K8 nin0)
  have c12 := ((z5.keep K1 nin0).keep K8 nin0)
  have c13 := (c5.keep K8 nin0)
  have c14 := ((z3.keep K1 nin0).keep K8 nin0)
  have c15 := ((z4.keep K1 nin0).keep K8 nin0)
  have c16 := (c6.keep K8 nin0)
  have c17 := (c4.keep K8)
  have c18 := ((z2.keep K1).keep K8)
  refine o_privateC W10 (w94 hw) (w95 hw) (w97 hw) (w96 hw) (w98 hw) (by decide) c17 (w51 hw) (rm63 l hw gCS a1 a2 a4 a3 z0 x1 x2 z1 x3 x4 h8 W10.old c17 SgCS NgCS c11 c18 c12 c13 c14 c15 c16 z11) 0 0 0 (by decide) (by rw [hml]; rfl) (lenOf pd8 rfl) [] rfl rfl 33 (hb hy d12_30) rfl rfl rfl (allS ⟨z11, m0⟩ all0) tri ?_
  intro v19 T19 h19 lo19 W19 K19 q19
  obtain ⟨P19_0, rfl⟩ := q19.2.2
  show Gl _ _ _ _ _ _ _ _ []
  refine o_aloadN W19 34 (hb hy d12_33) rfl rfl rfl <| o_dup W19 35 (hb hy d12_34) rfl rfl ?_
  have c20 := (c17.keep K19)
  have c21 := (c9.keep K19 (ninS (Exa.neArv c17 c16 (w42 hw)) nin0))
  refine o_getF W19 (w87 hw) Via.refl c21 38 (hb hy d12_35) rfl ?_
  intro T22 W22
  refine o_iloadN W22 39 (hb hy d12_38) rfl rfl <| o_iadd W22 (v := 4) 40 (hb hy d12_39) (by decide) rfl ?_
  refine o_putF W22 (w87 hw) Via.refl c21 c20 (Or.inl (w88 hw)) (w42 hw) (ty := .int) (v' := (.int 4)) (by decide) rfl rfl z12 (Or.inl (List.mem_of_getElem? (i := 1) rfl)) tri 43 (hb hy d12_40) rfl ?_
  intro T23 h23 lo23 W23 R23
  have F23 := c21.same R23
  refine o_aloadN W23 44 (hb hy d12_43) rfl rfl rfl ?_
  have c24 := (c20.wr R23)
  have c25 := ((c13.keep K19 (ninS (Exa.neArv c17 c16 (w42 hw)) nin0)).other R23 (Or.inr (slot_ne (Or.inl (w56 hw)) (Or.inl (w88 hw)) (by decide) (t := (.array .byte)) (t' := .int) (by decide) (by decide))))
  have c26 := ((c11.keep K19 (ninS (Exa.neArv c17 c16 (w42 hw)) nin0)).other R23 (Or.inr (slot_ne (Or.inl (w58 hw)) (Or.inl (w88 hw)) (by decide) (t := .byte) (t' := .int) (by decide) (by decide))))
  have c27 := (P19_0.other R23 (Ne.symm (Exa.neArv c20 P19_0 (w42 hw))))
  exact o_retA W23 hlk (v := (.ref a1)) hret rfl rfl (hb hy d12_44) (by decide) (by decide) ⟨F23, c25, c27, c26, rfl⟩
theorem rm65 (l : Launch) {Z a0} (hw : HW Z a0) (gCS : Int32) (a1 a2 a3 : Addr) (z0 : ClassId) (x1 x2 : Int32) (a4 : Addr) (z1 : ClassId) (x3 x4 : Int32) (h0 : Heap) (O0 : Old Z Z.heap.size h0) (z2 : Exa Z h0 a2 s0) (z3 : Fld Z h0 a2 s0 "value" "[B" (.ref a3)) (z4 : Arv Z h0 a3 z0 .byte 2 [(.int (b8 x1)), (.int (b8 x2))] iZ) (SgCS : Sta Z Z.heap s0 s3 "Z" (.int gCS)) (NgCS : ¬ (gCS = (0 : Int32))) (z5 : Fld Z h0 a2 s0 "coder" "B" iZ) (z6 : Fld Z h0 a1 s1 "count" "I" (.int 2)) (z7 : Exa Z h0 a1 s2) (z8 : Fld Z h0 a1 s1 "value" "[B" (.ref a4)) (z9 : Arv Z h0 a4 z1 .byte 16 [(.int x3), (.int x4), iZ, iZ, iZ, iZ, iZ, iZ, iZ, iZ, iZ, iZ, iZ, iZ, iZ, iZ] iZ) (z10 : Fld Z h0 a1 s1 "coder" "B" iZ) (z11 : Z.heap.size ≤ a4) (z12 : Z.heap.size ≤ a1) :
    CtrN l Z mn12 jdk_67_method_7_code 2 (some (.object s2)) [] (⟨4, 0, 0, 70⟩ : Room) #[(.ref a1), (.ref a2)] h0 [a1, a4] (fun v h => Fld Z h a1 s1 "count" "I" (.int 4) ∧ Fld Z h a1 s1 "value" "[B" (.ref a4) ∧ Arv Z h a4 z1 .byte 16 [(.int x3), (.int x4), (.int (b8 x1)), (.int (b8 x2)), iZ, iZ, iZ, iZ, iZ, iZ, iZ, iZ, iZ, iZ, iZ, iZ] iZ ∧ Fld Z h a1 s1 "coder" "B" iZ ∧ v = some (.ref a1)) := by
  refine CtrN.intro (L0 := #[vr a1, vr a2]) (plainFor_of_name pn2) O0 (own_entry rfl) ?_
  intro p e s m below meth c T0 hy hml hret hlk hnm W0
  refine o_aloadN W0 1 (hb hy d11_0) rfl rfl rfl <| o_aloadN W0 2 (hb hy d11_1) rfl rfl rfl ?_
  refine o_superC W0 (by decide) (w72 hw) (w73 hw) (own_sameN (y := mn11) (y2 := mn7) (by decide) (w73 hw) rfl (w90 hw) (w92 hw)) (w74 hw) (w76 hw) (Ins.self z7) (w51 hw) (rm64 l hw gCS a1 a2 a3 z0 x1 x2 a4 z1 x3 x4 h0 W0.old z2 z3 z4 SgCS NgCS z5 z6 z7 z8 z9 z10 z11 z12) 0 0 0 (by decide) (by rw [hml]; rfl) (lenOf pd9 rfl) [] rfl rfl 5 (hb hy d11_2) rfl rfl rfl (allS ⟨z11, (Or.inl (List.mem_of_getElem? (i := 1) rfl))⟩ (allS ⟨z12, m0⟩ all0)) tri ?_
  intro v1 T1 h1 lo1 W1 K1 q1
  obtain ⟨P1_0, P1_1, P1_2, P1_3, rfl⟩ := q1.2.2
  show Gl _ _ _ _ _ _ _ _ [(.ref a1)]
  refine o_pop W1 6 (hb hy d11_5) rfl rfl <| o_aloadN W1 7 (hb hy d11_6) rfl rfl rfl ?_
  have c2 := (z7.keep K1)
  exact o_retA W1 hlk (v := (.ref a1)) hret rfl rfl (hb hy d11_7) (by decide) (by decide) ⟨P1_0, P1_1, P1_2, P1_3, rfl⟩
theorem rm66 (l : Launch) {Z a0} (hw : HW Z a0) (a1 a2 : Addr) (z0 : ClassId) (x1 x2 x3 x4 : Int32) (h0 : Heap) (O0 : Old Z Z.heap.size h0) (z1 : Fld Z h0 a1 s1 "value" "[B" (.ref a2)) (z2 : Arv Z h0 a2 z0 .byte 16 [(.int x1), (.int x2), (.int x3), (.int x4), iZ, iZ, iZ, iZ, iZ, iZ, iZ, iZ, iZ, iZ, iZ, iZ] iZ) (z3 : Fld Z h0 a1 s1 "coder" "B" iZ) :
    CtrN l Z mn7 jdk_68_method_9_code 3 none [] (⟨0, 0, 0, 0⟩ : Room) #[(.ref a1), (.int 5)] h0 [] (fun v h => v = none) := by
  refine CtrN.intro (L0 := #[vr a1, vi 5, un]) (plainFor_of_name pn1) O0 (own_entry rfl) ?_
  intro p e s m below meth c T0 hy hml hret hlk hnm W0
  refine o_aloadN W0 1 (hb hy d15_0) rfl rfl rfl ?_
  refine o_getF W0 (w55 hw) Via.refl z1 4 (hb hy d15_1) rfl ?_
  intro T1 W1
  refine o_len W1 z2 5 (hb hy d15_4) rfl <| o_aloadN W1 6 (hb hy d15_5) rfl rfl rfl ?_
  refine o_getF W1 (w57 hw) Via.refl z3 9 (hb hy d15_6) rfl ?_
  intro T2 W2
  refine o_ishr W2 (v := 16) 10 (hb hy d15_9) (by decide) rfl <| o_istoreN W2 (L' := #[vr a1, vi 5, vi 16]) 11 (hb hy d15_10) rfl rfl <| o_iloadN W2 12 (hb hy d15_11) rfl rfl <| o_iloadN W2 13 (hb hy d15_12) rfl rfl <| o_isub W2 (v := (-11 : Int32)) 14 (hb hy d15_13) (by decide) rfl <| o_ifY W2 38 (hb hy d15_14) (XT.i0_le_t (by decide)) (by decide) rfl ?_
  exact o_ret0 W2 hlk hret (hb hy d15_38) (by decide) (by decide) rfl
theorem rm67 (l : Launch) {Z a0} (hw : HW Z a0) (gCS : Int32) (a1 a2 : Addr) (z0 : ClassId) (x1 x2 x3 x4 : Int32) (h0 : Heap) (O0 : Old Z Z.heap.size h0) (z1 : Fld Z h0 a1 s1 "count" "I" (.int 4)) (z2 : Exa Z h0 a1 s2) (z3 : Fld Z h0 a1 s1 "value" "[B" (.ref a2)) (z4 : Arv Z h0 a2 z0 .byte 16 [(.int x1), (.int x2), (.int x3), (.int x4), iZ, iZ, iZ, iZ, iZ, iZ, iZ, iZ, iZ, iZ, iZ, iZ] iZ) (z5 : Fld Z h0 a1 s1 "coder" "B" iZ) (SgCS : Sta Z Z.heap s0 s3 "Z" (.int gCS)) (NgCS : ¬ (gCS = (0 : Int32))) (z6 : Z.heap.size ≤ a1) (z7 : Z.heap.size ≤ a2) :
    CtrN l Z mn15 jdk_68_method_31_code 2 (some (.object s1)) [] (⟨1, 0, 0, 14⟩ : Room) #[(.ref a1), (.int 62)] h0 [a1, a2] (fun v h => Fld Z h a1 s1 "count" "I" (.int 5) ∧ Fld Z h a1 s1 "value" "[B" (.ref a2) ∧ Arv Z h a2 z0 .byte 16 [(.int x1), (.int x2), (.int x3), (.int x4), (.int 62), iZ, iZ, iZ, iZ, iZ, iZ, iZ, iZ, iZ, iZ, iZ] iZ ∧ Fld Z h a1 s1 "coder" "B" iZ ∧ v = some (.ref a1)) := by
  refine CtrN.intro (L0 := #[vr a1, vi 62]) (plainFor_of_name pn1) O0 (own_entry rfl) ?_
  intro p e s m below meth c T0 hy hml hret hlk hnm W0
  refine o_aloadN W0 1 (hb hy d20_0) rfl rfl rfl <| o_aloadN W0 2 (hb hy d20_1) rfl rfl rfl ?_
  refine o_getF W0 (w87 hw) Via.refl z1 5 (hb hy d20_2) rfl ?_
  intro T1 W1
  refine o_iconst W1 (v := 1) 6 (hb hy d20_5) rfl rfl <| o_iadd W1 (v := 5) 7 (hb hy d20_6) (by decide) rfl ?_
  refine o_privateC W1 (w89 hw) (w90 hw) (w92 hw) (w91 hw) (w93 hw) (by decide) z2 (w51 hw) (rm66 l hw a1 a2 z0 x1 x2 x3 x4 h0 W1.old z3 z4 z5) 0 0 0 (by decide) (by rw [hml]; rfl) (lenOf pd2 rfl) [] rfl rfl 10 (hb hy d20_7) rfl rfl rfl all0 tri ?_
  intro v2 T2 h2 lo2 W2 K2 q2
  obtain rfl := q2.2.2
  show Gl _ _ _ _ _ _ _ _ []
  refine o_aloadN W2 11 (hb hy d20_10) rfl rfl rfl ?_
  have c3 := (z5.keep K2 nin0)
  have c4 := (z2.keep K2)
  refine o_virtualC W2 (w123 hw) (w124 hw) (o_nf W2 rfl (w126 hw)) (w126 hw) (w125 hw) (by decide) c4 (w127 hw) (w51 hw) (rm21 l hw gCS a1 h2 W2.old SgCS NgCS c3) 0 0 0 (by decide) (by rw [hml]; rfl) (lenOf pd11 rfl) [] rfl rfl 14 (hb hy d20_11) rfl rfl rfl all0 tri ?_
  intro v5 T5 h5 lo5 W5 K5 q5
  obtain rfl := q5.2.2
  show Gl _ _ _ _ _ _ _ _ [(.int 1)]
  refine o_ifN W5 17 (hb hy d20_14) (XT.i0_eq_f (by decide)) rfl <| o_iloadN W5 18 (hb hy d20_17) rfl rfl ?_
  refine o_staticC W5 (w128 hw) (w129 hw) (w130 hw) (w131 hw) (by decide) (rm22 l hw  h5 W5.old ) 0 0 0 (by decide) (by rw [hml]; rfl) (lenOf pd12 rfl) [] rfl rfl 21 (hb hy d20_18) rfl rfl rfl all0 tri ?_
  intro v6 T6 h6 lo6 W6 K6 q6
  obtain rfl := q6.2.2
  show Gl _ _ _ _ _ _ _ _ [(.int 1)]
  refine o_ifN W6 24 (hb hy d20_21) (XT.i0_eq_f (by decide)) rfl <| o_aloadN W6 25 (hb hy d20_24) rfl rfl rfl ?_
  have c7 := (((z3.keep K2 nin0).keep K5 nin0).keep K6 nin0)
  refine o_getF W6 (w55 hw) Via.refl c7 28 (hb hy d20_25) rfl ?_
  intro T8 W8
  refine o_aloadN W8 29 (hb hy d20_28) rfl rfl rfl <| o_dup W8 30 (hb hy d20_29) rfl rfl ?_
  have c9 := (((z1.keep K2 nin0).keep K5 nin0).keep K6 nin0)
  refine o_getF W8 (w87 hw) Via.refl c9 33 (hb hy d20_30) rfl ?_
  intro T10 W10
  refine o_dupX1 W10 34 (hb hy d20_33) rfl rfl rfl <| o_iconst W10 (v := 1) 35 (hb hy d20_34) rfl rfl <| o_iadd W10 (v := 5) 36 (hb hy d20_35) (by decide) rfl ?_
  have c11 := ((c4.keep K5).keep K6)
  refine o_putF W10 (w87 hw) Via.refl c9 c11 (Or.inl (w88 hw)) (w42 hw) (ty := .int) (v' := (.int 5)) (by decide) rfl rfl z6 m0 tri 39 (hb hy d20_36) rfl ?_
  intro T12 h12 lo12 W12 R12
  have F12 := c9.same R12
  refine o_iloadN W12 40 (hb hy d20_39) rfl rfl <| o_i2b W12 (v := 62) 41 (hb hy d20_40) (by decide) rfl ?_
  have c13 := (c11.wr R12)
  have c14 := (((z4.keep K2 nin0).keep K5 nin0).keep K6 nin0)
  have c15 := ((((z4.keep K2 nin0).keep K5 nin0).keep K6 nin0).other R12 (Ne.symm (Exa.neArv c11 c14 (w42 hw))))
  refine o_stB W12 c15 (i := 4) (x' := (62 : Int32)) (by decide) (by decide) (by decide) (Nat.lt_of_sub_eq_succ rfl) (by decide) (vs' := [(.int x1), (.int x2), (.int x3), (.int x4), (.int 62), iZ, iZ, iZ, iZ, iZ, iZ, iZ, iZ, iZ, iZ, iZ]) rfl z7 (Or.inl (List.mem_of_getElem? (i := 1) rfl)) tri 42 (hb hy d20_41) rfl ?_
  intro T16 h16 lo16 W16 R16 V16
  refine o_goto W16 75 (hb hy d20_42) (by decide) rfl <| o_aloadN W16 76 (hb hy d20_75) rfl rfl rfl ?_
  have c17 := (c13.wr R16)
  have c18 := (F12.other R16 (Or.inl (Exa.neArv c13 c15 (w42 hw))))
  have c19 := ((c7.other R12 (Or.inr (slot_ne (Or.inl (w56 hw)) (Or.inl (w88 hw)) (by decide) (t := (.array .byte)) (t' := .int) (by decide) (by decide)))).other R16 (Or.inl (Exa.neArv c13 c15 (w42 hw))))
  have c20 := ((((c3.keep K5 nin0).keep K6 nin0).other R12 (Or.inr (slot_ne (Or.inl (w58 hw)) (Or.inl (w88 hw)) (by decide) (t := .byte) (t' := .int) (by decide) (by decide)))).other R16 (Or.inl (Exa.neArv c13 c15 (w42 hw))))
  exact o_retA W16 hlk (v := (.ref a1)) hret rfl rfl (hb hy d20_76) (by decide) (by decide) ⟨c18, c19, V16, c20, rfl⟩
theorem rm68 (l : Launch) {Z a0} (hw : HW Z a0) (gCS : Int32) (a1 a2 : Addr) (z0 : ClassId) (x1 x2 x3 x4 : Int32) (h0 : Heap) (O0 : Old Z Z.heap.size h0) (z1 : Fld Z h0 a1 s1 "count" "I" (.int 4)) (z2 : Exa Z h0 a1 s2) (z3 : Fld Z h0 a1 s1 "value" "[B" (.ref a2)) (z4 : Arv Z h0 a2 z0 .byte 16 [(.int x1), (.int x2), (.int x3), (.int x4), iZ, iZ, iZ, iZ, iZ, iZ, iZ, iZ, iZ, iZ, iZ, iZ] iZ) (z5 : Fld Z h0 a1 s1 "coder" "B" iZ) (SgCS : Sta Z Z.heap s0 s3 "Z" (.int gCS)) (NgCS : ¬ (gCS = (0 : Int32))) (z6 : Z.heap.size ≤ a1) (z7 : Z.heap.size ≤ a2) :
    CtrN l Z mn16 jdk_67_method_14_code 2 (some (.object s2)) [] (⟨2, 0, 0, 27⟩ : Room) #[(.ref a1), (.int 62)] h0 [a2, a1] (fun v h => Fld Z h a1 s1 "count" "I" (.int 5) ∧ Fld Z h a1 s1 "value" "[B" (.ref a2) ∧ Arv Z h a2 z0 .byte 16 [(.int x1), (.int x2), (.int x3), (.int x4), (.int 62), iZ, iZ, iZ, iZ, iZ, iZ, iZ, iZ, iZ, iZ, iZ] iZ ∧ Fld Z h a1 s1 "coder" "B" iZ ∧ v = some (.ref a1)) := by
  refine CtrN.intro (L0 := #[vr a1, vi 62]) (plainFor_of_name pn2) O0 (own_entry rfl) ?_
  intro p e s m below meth c T0 hy hml hret hlk hnm W0
  refine o_aloadN W0 1 (hb hy d19_0) rfl rfl rfl <| o_iloadN W0 2 (hb hy d19_1) rfl rfl ?_
  refine o_superC W0 (by decide) (w119 hw) (w120 hw) (own_sameN (y := mn15) (y2 := mn7) (by decide) (w120 hw) rfl (w90 hw) (w92 hw)) (w74 hw) (w122 hw) (Ins.self z2) (w51 hw) (rm67 l hw gCS a1 a2 z0 x1 x2 x3 x4 h0 W0.old z1 z2 z3 z4 z5 SgCS NgCS z6 z7) 0 0 0 (by decide) (by rw [hml]; rfl) (lenOf pd13 rfl) [] rfl rfl 5 (hb hy d19_2) rfl rfl rfl (allS ⟨z6, (Or.inl (List.mem_of_getElem? (i := 1) rfl))⟩ (allS ⟨z7, m0⟩ all0)) tri ?_
  intro v1 T1 h1 lo1 W1 K1 q1
  obtain ⟨P1_0, P1_1, P1_2, P1_3, rfl⟩ := q1.2.2
  show Gl _ _ _ _ _ _ _ _ [(.ref a1)]
  refine o_pop W1 6 (hb hy d19_5) rfl rfl <| o_aloadN W1 7 (hb hy d19_6) rfl rfl rfl ?_
  have c2 := (z2.keep K1)
  exact o_retA W1 hlk (v := (.ref a1)) hret rfl rfl (hb hy d19_7) (by decide) (by decide) ⟨P1_0, P1_1, P1_2, P1_3, rfl⟩
theorem rm69 (l : Launch) {Z a0} (hw : HW Z a0) (gCS : Int32) (a1 a2 a3 a4 : Addr) (z0 : ClassId) (a5 : Addr) (z1 : ClassId) (x1 x2 : Int32) (h0 : Heap) (O0 : Old Z Z.heap.size h0) (z2 : Fld Z h0 a1 s4 "out" s5 (.ref a3)) (z3 : Exa Z h0 a3 s2) (SgCS : Sta Z Z.heap s0 s3 "Z" (.int gCS)) (NgCS : ¬ (gCS = (0 : Int32))) (z4 : Fld Z h0 a3 s1 "count" "I" iZ) (z5 : Fld Z h0 a3 s1 "value" "[B" (.ref a4)) (z6 : Arv Z h0 a4 z0 .byte 16 [iZ, iZ, iZ, iZ, iZ, iZ, iZ, iZ, iZ, iZ, iZ, iZ, iZ, iZ, iZ, iZ] iZ) (z7 : Fld Z h0 a3 s1 "coder" "B" iZ) (z8 : Z.heap.size ≤ a4) (z9 : Z.heap.size ≤ a3) (z10 : Exa Z h0 a2 s0) (z11 : Fld Z h0 a2 s0 "value" "[B" (.ref a5)) (z12 : Arv Z h0 a5 z1 .byte 2 [(.int (b8 x1)), (.int (b8 x2))] iZ) (z13 : a4 ≠ a5) (z14 : Fld Z h0 a2 s0 "coder" "B" iZ) :
    CtrW l Z consts_1 mn17 prog_5_method_3_code 2 (some (.object s4)) [] (⟨5, 2, 12, 83⟩ : Room) #[(.ref a1), (.ref a2)] h0 [a4, a3] (fun v h => Fld Z h a3 s1 "count" "I" (.int 5) ∧ Fld Z h a3 s1 "value" "[B" (.ref a4) ∧ Arv Z h a4 z0 .byte 16 [(.int (b8 60)), (.int (b8 47)), (.int (b8 x1)), (.int (b8 x2)), (.int 62), iZ, iZ, iZ, iZ, iZ, iZ, iZ, iZ, iZ, iZ, iZ] iZ ∧ Fld Z h a3 s1 "coder" "B" iZ ∧ v = some (.ref a1)) := by
  refine CtrW.intro (L0 := #[vr a1, vr a2]) (plainFor_of_name pn3) O0 (own_entry rfl) ?_
  intro p e s m below meth c T0 V0 hy hml hret hlk hnm W0
  refine o_aloadN W0 1 (hb hy d10_0) rfl rfl rfl ?_
  refine o_getF W0 (w59 hw) Via.refl z2 4 (hb hy d10_1) rfl ?_
  intro T1 W1
  refine o_ldcR W1 (w66 hw) (own_wS hw) (own_EL hw) (by simp [consts_1]) 6 (hb hy d10_4) rfl (n := 8) (by decide) (by decide) (cells' := 2) (slots' := 12) rfl rfl (by decide) (by decide) (vs := [(.int (b8 60)), (.int (b8 47))]) (z := (2 : Int32)) ⟨by decide, by decide⟩ (by decide) (by decide) ?_
  intro s2 T2 h2 V2 t2 k2 W2 E2 C2 X2 Fc2 Fv2 A2 ns2
  have c3 := (z3.ext E2)
  have c4 := (z4.ext E2)
  have c5 := (z5.ext E2)
  have c6 := (z6.ext E2)
  have c7 := (z7.ext E2)
  refine o_virtualC W2 (w67 hw) (w68 hw) (o_nf W2 rfl (w70 hw)) (w70 hw) (w69 hw) (by decide) c3 (w71 hw) (w43 hw) (rm13 l hw gCS a3 s2 t2 k2 a4 z0 h2 W2.old X2 Fv2 A2 SgCS NgCS Fc2 c4 c3 c5 c6 c7 z8 z9) 0 2 12 (by decide) (by rw [hml]; rfl) (lenOf pd10 rfl) [] rfl rfl 9 (hb hy d10_6) rfl rfl rfl (allS ⟨z9, (Or.inl (List.mem_of_getElem? (i := 1) rfl))⟩ (allS ⟨z8, m0⟩ all0)) (fun _ K => IW.keep K (sfS (Safe.exa W2.al c3 (by decide) (by decide)) (sfS (own_safeB W2.2.2.2.1 (n := 16) (by decide) (own_EL16 hw) c6) sf0)) W2.inv) ?_
  intro v8 T8 h8 lo8 W8 K8 q8
  obtain ⟨P8_0, P8_1, P8_2, P8_3, rfl⟩ := q8.2.2
  show Gl _ _ _ _ _ _ _ _ [(.ref a3)]
  refine o_aloadN W8 10 (hb hy d10_9) rfl rfl rfl ?_
  have c9 := ((z10.ext E2).keep K8)
  have c10 := (z10.ext E2)
  have c11 := (c3.keep K8)
  have c12 := ((z11.ext E2).keep K8 (ninS (Exa.ne c10 c3 (by decide)) (ninS (Exa.neArv c10 c6 (w2 hw)) nin0)))
  have c13 := (z12.ext E2)
  have c14 := ((z12.ext E2).keep K8 (ninS (Ne.symm (Exa.neArv c3 c13 (w42 hw))) (ninS (Ne.symm z13) nin0)))
  have c15 := ((z14.ext E2).keep K8 (ninS (Exa.ne c10 c3 (by decide)) (ninS (Exa.neArv c10 c6 (w2 hw)) nin0)))
  refine o_virtualC W8 (w67 hw) (w68 hw) (o_nf W8 rfl (w70 hw)) (w70 hw) (w69 hw) (by decide) c11 (w71 hw) (w43 hw) (rm65 l hw gCS a3 a2 a5 z1 x1 x2 a4 z0 (b8 60) (b8 47) h8 W8.old c9 c12 c14 SgCS NgCS c15 P8_0 c11 P8_1 P8_2 P8_3 z8 z9) 0 2 12 (by decide) (by rw [hml]; rfl) (lenOf pd10 rfl) [] rfl rfl 13 (hb hy d10_10) rfl rfl rfl (allS ⟨z9, (Or.inl (List.mem_of_getElem? (i := 1) rfl))⟩ (allS ⟨z8, m0⟩ all0)) (fun _ K => IW.keep K (sfS (Safe.exa W8.al c11 (by decide) (by decide)) (sfS (own_safeB W8.2.2.2.1 (n := 16) (by decide) (own_EL16 hw) P8_2) sf0)) W8.inv) ?_
  intro v16 T16 h16 lo16 W16 K16 q16
  obtain ⟨P16_0, P16_1, P16_2, P16_3, rfl⟩ := q16.2.2
  show Gl _ _ _ _ _ _ _ _ [(.ref a3)]
  refine o_bipush W16 (v := 62) 15 (hb hy d10_13) (by decide) rfl ?_
  have c17 := (c11.keep K16)
  refine o_virtualC W16 (w114 hw) (w115 hw) (o_nf W16 rfl (w117 hw)) (w117 hw) (w116 hw) (by decide) c17 (w118 hw) (w43 hw) (rm68 l hw gCS a3 a4 z0 (b8 60) (b8 47) (b8 x1) (b8 x2) h16 W16.old P16_0 c17 P16_1 P16_2 P16_3 SgCS NgCS z9 z8) 0 2 12 (by decide) (by rw [hml]; rfl) (lenOf pd14 rfl) [] rfl rfl 18 (hb hy d10_15) rfl rfl rfl (allS ⟨z8, m0⟩ (allS ⟨z9, (Or.inl (List.mem_of_getElem? (i := 1) rfl))⟩ all0)) (fun _ K => IW.keep K (sfS (own_safeB W16.2.2.2.1 (n := 16) (by decide) (own_EL16 hw) P16_2) (sfS (Safe.exa W16.al c17 (by decide) (by decide)) sf0)) W16.inv) ?_
  intro v18 T18 h18 lo18 W18 K18 q18
  obtain ⟨P18_0, P18_1, P18_2, P18_3, rfl⟩ := q18.2.2
  show Gl _ _ _ _ _ _ _ _ [(.ref a3)]
  refine o_pop W18 19 (hb hy d10_18) rfl rfl <| o_aloadN W18 20 (hb hy d10_19) rfl rfl rfl ?_
  have c19 := (c17.keep K18)
  exact o_retAW W18 (own_EL hw) hlk (v := (.ref a1)) hret rfl rfl (hb hy d10_20) (by decide) (by decide) ⟨P18_0, P18_1, P18_2, P18_3, rfl⟩
theorem rm70 (l : Launch) {Z a0} (hw : HW Z a0) (a1 : Addr) (h0 : Heap) (O0 : Old Z Z.heap.size h0) (z0 : Fld Z h0 a1 s1 "count" "I" (.int 5)) :
    CtrN l Z mn19 jdk_68_method_6_code 1 (some .int) [] (⟨0, 0, 0, 0⟩ : Room) #[(.ref a1)] h0 [] (fun v h => v = some (.int 5)) := by
  refine CtrN.intro (L0 := #[vr a1]) (plainFor_of_name pn1) O0 (own_entry rfl) ?_
  intro p e s m below meth c T0 hy hml hret hlk hnm W0
  refine o_aloadN W0 1 (hb hy d29_0) rfl rfl rfl ?_
  refine o_getF W0 (w87 hw) Via.refl z0 4 (hb hy d29_1) rfl ?_
  intro T1 W1
  exact o_retI W1 hlk hret (hb hy d29_4) (by decide) (by decide) rfl
theorem rm71 (l : Launch) {Z a0} (hw : HW Z a0) (a1 : Addr) (h0 : Heap) (O0 : Old Z Z.heap.size h0) (z0 : Fld Z h0 a1 s1 "count" "I" (.int 5)) (z1 : Exa Z h0 a1 s2) :
    CtrN l Z mn20 jdk_67_method_93_code 1 (some .int) [] (⟨1, 0, 0, 12⟩ : Room) #[(.ref a1)] h0 [] (fun v h => v = some (.int 5)) := by
  refine CtrN.intro (L0 := #[vr a1]) (plainFor_of_name pn2) O0 (own_entry rfl) ?_
  intro p e s m below meth c T0 hy hml hret hlk hnm W0
  refine o_aloadN W0 1 (hb hy d28_0) rfl rfl rfl ?_
  refine o_superC W0 (by decide) (w160 hw) (w156 hw) (own_sameN (y := mn19) (y2 := mn7) (by decide) (w156 hw) rfl (w90 hw) (w92 hw)) (w74 hw) (w161 hw) (Ins.self z1) (w51 hw) (rm70 l hw a1 h0 W0.old z0) 0 0 0 (by decide) (by rw [hml]; rfl) (lenOf pd5 rfl) [] rfl rfl 4 (hb hy d28_1) rfl rfl rfl all0 tri ?_
  intro v1 T1 h1 lo1 W1 K1 q1
  obtain rfl := q1.2.2
  show Gl _ _ _ _ _ _ _ _ [(.int 5)]
  exact o_retI W1 hlk hret (hb hy d28_4) (by decide) (by decide) rfl
theorem rm72 (l : Launch) {Z a0} (hw : HW Z a0)  (h0 : Heap) (O0 : Old Z Z.heap.size h0) :
    CtrN l Z mn21 jdk_65_method_131_code 2 none [] (⟨0, 0, 0, 0⟩ : Room) #[iZ, (.int 5)] h0 [] (fun v h => v = none) := by
  refine CtrN.intro (L0 := #[vi 0, vi 5]) (plainFor_of_name pn5) O0 (own_entry rfl) ?_
  intro p e s m below meth c T0 hy hml hret hlk hnm W0
  refine o_iloadN W0 1 (hb hy d32_0) rfl rfl <| o_iloadN W0 2 (hb hy d32_1) rfl rfl <| o_icmpY W0 37 (hb hy d32_2) (XT.ii_ge_t (by decide)) (by decide) rfl ?_
  exact o_ret0 W0 hlk hret (hb hy d32_37) (by decide) (by decide) rfl
theorem rm73 (l : Launch) {Z a0} (hw : HW Z a0)  (h0 : Heap) (O0 : Old Z Z.heap.size h0) :
    CtrN l Z mn22 jdk_29_method_69_code 2 (some .int) [] (⟨0, 0, 0, 0⟩ : Room) #[(.int 16), (.int 5)] h0 [] (fun v h => v = some (.int 5)) := by
  refine CtrN.intro (L0 := #[vi 16, vi 5]) (Jvm.Free.JP.mathPlain rfl (by decide +kernel)) O0 (own_entry rfl) ?_
  intro p e s m below meth c T0 hy hml hret hlk hnm W0
  refine o_iloadN W0 1 (hb hy d33_0) rfl rfl <| o_iloadN W0 2 (hb hy d33_1) rfl rfl <| o_icmpY W0 9 (hb hy d33_2) (XT.ii_gt_t (by decide)) (by decide) rfl <| o_iloadN W0 10 (hb hy d33_9) rfl rfl ?_
  exact o_retI W0 hlk hret (hb hy d33_10) (by decide) (by decide) rfl
theorem rm74 (l : Launch) {Z a0} (hw : HW Z a0) (a1 : Addr) (z0 : ClassId) (x1 x2 x3 x4 : Int32) (h0 : Heap) (O0 : Old Z Z.heap.size h0) (z1 : Arv Z h0 a1 z0 .byte 16 [(.int x1), (.int x2), (.int x3), (.int x4), (.int 62), iZ, iZ, iZ, iZ, iZ, iZ, iZ, iZ, iZ, iZ, iZ] iZ) :
    CtrN l Z mn23 jdk_65_method_133_code 5 (some (.array .byte)) [] (⟨1, 1, 5, 27⟩ : Room) #[(.ref a1), iZ, (.int 5)] h0 [] (fun v h => ∃ r1 : Addr, ∃ r2 : ClassId, h0.size ≤ r1 ∧ Arv Z h r1 r2 .byte 5 [(.int x1), (.int x2), (.int x3), (.int x4), (.int 62)] iZ ∧ v = some (.ref r1)) := by
  refine CtrN.intro (L0 := #[vr a1, vi 0, vi 5, un, un]) (plainFor_of_name pn5) O0 (own_entry rfl) ?_
  intro p e s m below meth c T0 hy hml hret hlk hnm W0
  refine o_iloadN W0 1 (hb hy d31_0) rfl rfl <| o_iloadN W0 2 (hb hy d31_1) rfl rfl ?_
  refine o_staticC W0 (w170 hw) (w171 hw) (w165 hw) (w172 hw) (by decide) (rm72 l hw  h0 W0.old ) 0 0 0 (by decide) (by rw [hml]; rfl) (lenOf pd17 rfl) [] rfl rfl 5 (hb hy d31_2) rfl rfl rfl all0 tri ?_
  intro v1 T1 h1 lo1 W1 K1 q1
  obtain rfl := q1.2.2
  show Gl _ _ _ _ _ _ _ _ []
  refine o_iloadN W1 6 (hb hy d31_5) rfl rfl <| o_iloadN W1 7 (hb hy d31_6) rfl rfl <| o_isub W1 (v := 5) 8 (hb hy d31_7) (by decide) rfl <| o_istoreN W1 (L' := #[vr a1, vi 0, vi 5, vi 5, un]) 9 (hb hy d31_8) rfl rfl <| o_iloadN W1 10 (hb hy d31_9) rfl rfl ?_
  refine o_newP W1 (aty := .byte) (w15 hw) tri (by decide) (cap := 5) (by decide) (by decide) 12 (hb hy d31_10) rfl (cells' := 1) (slots' := 5) rfl rfl (by decide) (by decide) (vs := [iZ, iZ, iZ, iZ, iZ]) (dv := iZ) rfl rfl ?_
  intro b2 T2 h2 k2 W2 E2 ge2 gz2 gb2 V2
  refine o_astore W2 (L' := #[vr a1, vi 0, vi 5, vi 5, vr b2]) 14 (hb hy d31_12) rfl rfl rfl <| o_aloadN W2 15 (hb hy d31_14) rfl rfl rfl <| o_iloadN W2 16 (hb hy d31_15) rfl rfl <| o_aload W2 18 (hb hy d31_16) rfl rfl rfl <| o_iconst W2 (v := 0) 19 (hb hy d31_18) rfl rfl <| o_aloadN W2 20 (hb hy d31_19) rfl rfl rfl ?_
  have c3 := ((z1.keep K1 nin0).ext E2)
  refine o_len W2 c3 21 (hb hy d31_20) rfl <| o_iloadN W2 22 (hb hy d31_21) rfl rfl <| o_isub W2 (v := 16) 23 (hb hy d31_22) (by decide) rfl <| o_iloadN W2 24 (hb hy d31_23) rfl rfl ?_
  refine o_staticC W2 (w173 hw) (w174 hw) (w175 hw) (w176 hw) (by decide) (rm73 l hw  h2 W2.old ) 4 1 5 (by decide) (by rw [hml]; rfl) (lenOf pd18 rfl) [iZ, (.ref b2), iZ, (.ref a1)] rfl rfl 27 (hb hy d31_24) rfl rfl rfl all0 tri ?_
  intro v4 T4 h4 lo4 W4 K4 q4
  obtain rfl := q4.2.2
  show Gl _ _ _ _ _ _ _ _ [(.int 5), iZ, (.ref b2), iZ, (.ref a1)]
  have c5 := (c3.keep K4 nin0)
  have c6 := (V2.keep K4 nin0)
  refine o_copy W4 (w177 hw) (w113 hw) (w111 hw) (w112 hw) c5 c6 (us := [(.int x1), (.int x2), (.int x3), (.int x4), (.int 62)]) (Or.inl ⟨rfl, rfl⟩) (by decide) (by decide) (by decide) (by decide) (by decide) rfl (Nat.le_of_ble_eq_true rfl) (vd' := [(.int x1), (.int x2), (.int x3), (.int x4), (.int 62)]) rfl gz2 (Or.inr gb2) tri (by rw [hml]; rfl) 30 (hb hy d31_27) rfl (by decide) 0 (by exact Nat.le_of_eq rfl) (by decide) ?_
  intro T7 h7 lo7 W7 K7 V7
  refine o_aload W7 32 (hb hy d31_30) rfl rfl rfl ?_
  exact o_retA W7 hlk (v := (.ref b2)) hret rfl rfl (hb hy d31_32) (by decide) (by decide) ⟨b2, k2, gb2, V7, rfl⟩
theorem rm75 (l : Launch) {Z a0} (hw : HW Z a0) (a1 : Addr) (z0 : ClassId) (x1 x2 x3 x4 : Int32) (h0 : Heap) (O0 : Old Z Z.heap.size h0) (z1 : Arv Z h0 a1 z0 .byte 16 [(.int x1), (.int x2), (.int x3), (.int x4), (.int 62), iZ, iZ, iZ, iZ, iZ, iZ, iZ, iZ, iZ, iZ, iZ] iZ) :
    CtrN l Z mn24 jdk_65_method_132_code 3 (some (.array .byte)) [] (⟨2, 1, 5, 43⟩ : Room) #[(.ref a1), iZ, (.int 5)] h0 [] (fun v h => ∃ r1 : Addr, ∃ r2 : ClassId, h0.size ≤ r1 ∧ Arv Z h r1 r2 .byte 5 [(.int x1), (.int x2), (.int x3), (.int x4), (.int 62)] iZ ∧ v = some (.ref r1)) := by
  refine CtrN.intro (L0 := #[vr a1, vi 0, vi 5]) (plainFor_of_name pn5) O0 (own_entry rfl) ?_
  intro p e s m below meth c T0 hy hml hret hlk hnm W0
  refine o_iloadN W0 1 (hb hy d30_0) rfl rfl <| o_ifN W0 4 (hb hy d30_1) (XT.i0_ne_f (by decide)) rfl <| o_iloadN W0 5 (hb hy d30_4) rfl rfl <| o_aloadN W0 6 (hb hy d30_5) rfl rfl rfl <| o_len W0 z1 7 (hb hy d30_6) rfl <| o_icmpN W0 10 (hb hy d30_7) (XT.ii_eq_f (by decide)) rfl ?_
  refine o_aloadN W0 11 (hb hy d30_10) rfl rfl rfl <| o_iloadN W0 12 (hb hy d30_11) rfl rfl <| o_iloadN W0 13 (hb hy d30_12) rfl rfl ?_
  refine o_staticC W0 (w167 hw) (w168 hw) (w165 hw) (w169 hw) (by decide) (rm74 l hw a1 z0 x1 x2 x3 x4 h0 W0.old z1) 0 1 5 (by decide) (by rw [hml]; rfl) (lenOf pd19 rfl) [] rfl rfl 16 (hb hy d30_13) rfl rfl rfl all0 tri ?_
  intro v1 T1 h1 lo1 W1 K1 q1
  obtain ⟨r1_1, r2_1, P1_0, P1_1, rfl⟩ := q1.2.2
  show Gl _ _ _ _ _ _ _ _ [(.ref r1_1)]
  exact o_retA W1 hlk (v := (.ref r1_1)) hret rfl rfl (hb hy d30_16) (by decide) (by decide) ⟨r1_1, r2_1, (Nat.le_trans W0.keep.1 P1_0), P1_1, rfl⟩
theorem rm76 (l : Launch) {Z a0} (hw : HW Z a0) (gCS : Int32) (a1 a2 a3 : Addr) (z0 : ClassId) (x1 x2 x3 x4 : Int32) (h0 : Heap) (O0 : Old Z Z.heap.size h0) (z1 : Exa Z h0 a2 s2) (z2 : Fld Z h0 a2 s1 "value" "[B" (.ref a3)) (z3 : Fld Z h0 a2 s1 "count" "I" (.int 5)) (SgCS : Sta Z Z.heap s0 s3 "Z" (.int gCS)) (NgCS : ¬ (gCS = (0 : Int32))) (z4 : Fld Z h0 a2 s1 "coder" "B" iZ) (z5 : Exa Z h0 a1 s0) (z6 : Fld Z h0 a1 s0 "coder" "B" iZ) (z7 : Z.heap.size ≤ a1) (z8 : Arv Z h0 a3 z0 .byte 16 [(.int x1), (.int x2), (.int x3), (.int x4), (.int 62), iZ, iZ, iZ, iZ, iZ, iZ, iZ, iZ, iZ, iZ, iZ] iZ) (z9 : Fld Z h0 a1 s0 "value" "[B" .null) :
    CtrN l Z mn25 jdk_42_method_150_code 5 none [] (⟨3, 1, 5, 58⟩ : Room) #[(.ref a1), (.ref a2), .null] h0 [a1] (fun v h => ∃ r1 : Addr, ∃ r2 : ClassId, h0.size ≤ r1 ∧ Fld Z h a1 s0 "coder" "B" iZ ∧ Fld Z h a1 s0 "value" "[B" (.ref r1) ∧ Arv Z h r1 r2 .byte 5 [(.int x1), (.int x2), (.int x3), (.int x4), (.int 62)] iZ ∧ v = none) := by
  refine CtrN.intro (L0 := #[vr a1, vr a2, .val .null, un, un]) (plainFor_of_name pn0) O0 (own_entry rfl) ?_
  intro p e s m below meth c T0 hy hml hret hlk hnm W0
  refine o_aloadN W0 1 (hb hy d26_0) rfl rfl rfl ?_
  refine o_initO W0 (w11 hw) (w12 hw) (w13 hw) (by rw [hml]; rfl) 4 (hb hy d26_1) rfl (by decide) 0 (by exact Nat.le_of_eq rfl) (by decide) ?_
  intro T1 W1
  refine o_aloadN W1 5 (hb hy d26_4) rfl rfl rfl ?_
  refine o_virtualC W1 (w149 hw) (w150 hw) (o_nf W1 rfl (w152 hw)) (w152 hw) (w151 hw) (by decide) z1 (w153 hw) (w51 hw) (rm26 l hw a2 a3 h0 W1.old z2) 0 0 0 (by decide) (by rw [hml]; rfl) (lenOf pd16 rfl) [] rfl rfl 8 (hb hy d26_5) rfl rfl rfl all0 tri ?_
  intro v2 T2 h2 lo2 W2 K2 q2
  obtain rfl := q2.2.2
  show Gl _ _ _ _ _ _ _ _ [(.ref a3)]
  refine o_astoreN W2 (L' := #[vr a1, vr a2, .val .null, vr a3, un]) 9 (hb hy d26_8) rfl rfl rfl <| o_aloadN W2 10 (hb hy d26_9) rfl rfl rfl ?_
  have c3 := (z3.keep K2 nin0)
  have c4 := (z1.keep K2)
  refine o_virtualC W2 (w154 hw) (w155 hw) (o_nf2 W2 (y2 := mn7) rfl (w90 hw) (w92 hw)) (w157 hw) (w158 hw) (by decide) c4 (w159 hw) (w43 hw) (rm71 l hw a2 h2 W2.old c3 c4) 0 0 0 (by decide) (by rw [hml]; rfl) (lenOf pd5 rfl) [] rfl rfl 13 (hb hy d26_10) rfl rfl rfl all0 tri ?_
  intro v5 T5 h5 lo5 W5 K5 q5
  obtain rfl := q5.2.2
  show Gl _ _ _ _ _ _ _ _ [(.int 5)]
  refine o_istore W5 (L' := #[vr a1, vr a2, .val .null, vr a3, vi 5]) 15 (hb hy d26_13) rfl rfl <| o_aloadN W5 16 (hb hy d26_15) rfl rfl rfl ?_
  have c6 := ((z4.keep K2 nin0).keep K5 nin0)
  have c7 := (c4.keep K5)
  refine o_virtualC W5 (w162 hw) (w124 hw) (o_nf W5 rfl (w126 hw)) (w126 hw) (w125 hw) (by decide) c7 (w127 hw) (w51 hw) (rm21 l hw gCS a2 h5 W5.old SgCS NgCS c6) 0 0 0 (by decide) (by rw [hml]; rfl) (lenOf pd11 rfl) [] rfl rfl 19 (hb hy d26_16) rfl rfl rfl all0 tri ?_
  intro v8 T8 h8 lo8 W8 K8 q8
  obtain rfl := q8.2.2
  show Gl _ _ _ _ _ _ _ _ [(.int 1)]
  refine o_ifN W8 22 (hb hy d26_19) (XT.i0_eq_f (by decide)) rfl <| o_aloadN W8 23 (hb hy d26_22) rfl rfl rfl <| o_iconst W8 (v := 0) 24 (hb hy d26_23) rfl rfl ?_
  have c9 := (((z5.keep K2).keep K5).keep K8)
  have c10 := (((z6.keep K2 nin0).keep K5 nin0).keep K8 nin0)
  refine o_putF W8 (w21 hw) Via.refl c10 c9 (Or.inr ⟨(w17 hw), rfl, hnm⟩) (w2 hw) (ty := .byte) (v' := iZ) (by decide) rfl (by decide) z7 m0 tri 27 (hb hy d26_24) rfl ?_
  intro T11 h11 lo11 W11 R11
  have F11 := c10.same R11
  refine o_aloadN W11 28 (hb hy d26_27) rfl rfl rfl <| o_aloadN W11 29 (hb hy d26_28) rfl rfl rfl <| o_iconst W11 (v := 0) 30 (hb hy d26_29) rfl rfl <| o_iload W11 32 (hb hy d26_30) rfl rfl ?_
  have c12 := (c9.wr R11)
  have c13 := (((z8.keep K2 nin0).keep K5 nin0).keep K8 nin0)
  have c14 := ((((z8.keep K2 nin0).keep K5 nin0).keep K8 nin0).other R11 (Ne.symm (Exa.neArv c9 c13 (w2 hw))))
  refine o_staticC W11 (w163 hw) (w164 hw) (w165 hw) (w166 hw) (by decide) (rm75 l hw a3 z0 x1 x2 x3 x4 h11 W11.old c14) 1 1 5 (by decide) (by rw [hml]; rfl) (lenOf pd19 rfl) [(.ref a1)] rfl rfl 35 (hb hy d26_32) rfl rfl rfl all0 tri ?_
  intro v15 T15 h15 lo15 W15 K15 q15
  obtain ⟨r1_15, r2_15, P15_0, P15_1, rfl⟩ := q15.2.2
  show Gl _ _ _ _ _ _ _ _ [(.ref r1_15), (.ref a1)]
  have c16 := (c12.keep K15)
  have c17 := (((((z9.keep K2 nin0).keep K5 nin0).keep K8 nin0).other R11 (Or.inr (slot_ne (Or.inr (w16 hw)) (Or.inr (w17 hw)) (by decide) (t := (.array .byte)) (t' := .byte) (by decide) (by decide)))).keep K15 nin0)
  refine o_putF W15 (w20 hw) Via.refl c17 c16 (Or.inr ⟨(w16 hw), rfl, hnm⟩) (w2 hw) (ty := (.array .byte)) (v' := (.ref r1_15)) (by decide) rfl rfl z7 m0 tri 38 (hb hy d26_35) rfl ?_
  intro T18 h18 lo18 W18 R18
  have F18 := c17.same R18
  refine o_goto W18 97 (hb hy d26_38) (by decide) rfl ?_
  have c19 := ((F11.keep K15 nin0).other R18 (Or.inr (slot_ne (Or.inr (w17 hw)) (Or.inr (w16 hw)) (by decide) (t := .byte) (t' := (.array .byte)) (by decide) (by decide))))
  have c20 := (c16.wr R18)
  have c21 := (P15_1.other R18 (own_ne' c12.lt P15_0))
  exact o_ret0 W18 hlk hret (hb hy d26_97) (by decide) (by decide) ⟨r1_15, r2_15, (Nat.le_trans W11.keep.1 P15_0), c19, F18, c21, rfl⟩
theorem rm77 (l : Launch) {Z a0} (hw : HW Z a0) (gCS : Int32) (a1 a2 a3 : Addr) (z0 : ClassId) (x1 x2 x3 x4 : Int32) (h0 : Heap) (O0 : Old Z Z.heap.size h0) (z1 : Exa Z h0 a2 s2) (z2 : Fld Z h0 a2 s1 "value" "[B" (.ref a3)) (z3 : Fld Z h0 a2 s1 "count" "I" (.int 5)) (SgCS : Sta Z Z.heap s0 s3 "Z" (.int gCS)) (NgCS : ¬ (gCS = (0 : Int32))) (z4 : Fld Z h0 a2 s1 "coder" "B" iZ) (z5 : Exa Z h0 a1 s0) (z6 : Fld Z h0 a1 s0 "coder" "B" iZ) (z7 : Arv Z h0 a3 z0 .byte 16 [(.int x1), (.int x2), (.int x3), (.int x4), (.int 62), iZ, iZ, iZ, iZ, iZ, iZ, iZ, iZ, iZ, iZ, iZ] iZ) (z8 : Fld Z h0 a1 s0 "value" "[B" .null) (z9 : Z.heap.size ≤ a1) :
    CtrN l Z mn26 jdk_42_method_53_code 2 none [] (⟨4, 1, 5, 74⟩ : Room) #[(.ref a1), (.ref a2)] h0 [a1] (fun v h => ∃ r1 : Addr, ∃ r2 : ClassId, h0.size ≤ r1 ∧ Fld Z h a1 s0 "coder" "B" iZ ∧ Fld Z h a1 s0 "value" "[B" (.ref r1) ∧ Arv Z h r1 r2 .byte 5 [(.int x1), (.int x2), (.int x3), (.int x4), (.int 62)] iZ ∧ v = none) := by
  refine CtrN.intro (L0 := #[vr a1, vr a2]) (plainFor_of_name pn0) O0 (own_entry rfl) ?_
  intro p e s m below meth c T0 hy hml hret hlk hnm W0
  refine o_aloadN W0 1 (hb hy d25_0) rfl rfl rfl <| o_aloadN W0 2 (hb hy d25_1) rfl rfl rfl ?_
  refine o_aconstNull W0 3 (hb hy d25_2) rfl ?_
  refine o_specialC W0 rfl (w146 hw) (w147 hw) (w148 hw) (by decide) (w3 hw) (rm76 l hw gCS a1 a2 a3 z0 x1 x2 x3 x4 h0 W0.old z1 z2 z3 SgCS NgCS z4 z5 z6 z9 z7 z8) 0 1 5 (by decide) (by rw [hml]; rfl) (lenOf pd20 rfl) [] rfl rfl 6 (hb hy d25_3) rfl rfl rfl (allS ⟨z9, m0⟩ all0) tri ?_
  intro v1 T1 h1 lo1 W1 K1 q1
  obtain ⟨r1_1, r2_1, P1_0, P1_1, P1_2, P1_3, rfl⟩ := q1.2.2
  show Gl _ _ _ _ _ _ _ _ []
  have c2 := (z5.keep K1)
  exact o_ret0 W1 hlk hret (hb hy d25_6) (by decide) (by decide) ⟨r1_1, r2_1, (Nat.le_trans W0.keep.1 P1_0), P1_1, P1_2, P1_3, rfl⟩
theorem rm78 (l : Launch) {Z a0} (hw : HW Z a0) (gCS : Int32) (a1 a2 : Addr) (z0 : ClassId) (x1 x2 x3 x4 : Int32) (h0 : Heap) (O0 : Old Z Z.heap.size h0) (z1 : Exa Z h0 a1 s2) (z2 : Fld Z h0 a1 s1 "value" "[B" (.ref a2)) (z3 : Fld Z h0 a1 s1 "count" "I" (.int 5)) (SgCS : Sta Z Z.heap s0 s3 "Z" (.int gCS)) (NgCS : ¬ (gCS = (0 : Int32))) (z4 : Fld Z h0 a1 s1 "coder" "B" iZ) (z5 : Arv Z h0 a2 z0 .byte 16 [(.int x1), (.int x2), (.int x3), (.int x4), (.int 62), iZ, iZ, iZ, iZ, iZ, iZ, iZ, iZ, iZ, iZ, iZ] iZ) :
    CtrN l Z mn27 jdk_67_method_42_code 1 (some (.object s0)) [] (⟨5, 2, 9, 88⟩ : Room) #[(.ref a1)] h0 [] (fun v h => ∃ r1 : Addr, ∃ r2 : Addr, ∃ r3 : ClassId, h0.size ≤ r1 ∧ h0.size ≤ r2 ∧ Exa Z h r1 s0 ∧ Fld Z h r1 s0 "value" "[B" (.ref r2) ∧ Fld Z h r1 s0 "coder" "B" iZ ∧ Arv Z h r2 r3 .byte 5 [(.int x1), (.int x2), (.int x3), (.int x4), (.int 62)] iZ ∧ v = some (.ref r1)) := by
  refine CtrN.intro (L0 := #[vr a1]) (plainFor_of_name pn2) O0 (own_entry rfl) ?_
  intro p e s m below meth c T0 hy hml hret hlk hnm W0
  refine o_new W0 (w142 hw) (w2 hw) (w3 hw) tri 3 (hb hy d24_0) rfl (cells' := 1) (slots' := 4) rfl rfl (by decide) (by decide) ?_
  intro b1 T1 h1 W1 E1 ge1 gz1 gb1 A1 D1
  have Fb1_value : Fld Z h1 b1 s0 "value" "[B" .null := D1 (Or.inr (w16 hw)) (ty := (.array .byte)) (by decide)
  have Fb1_coder : Fld Z h1 b1 s0 "coder" "B" iZ := D1 (Or.inr (w17 hw)) (ty := .byte) (by decide)
  refine o_dup W1 4 (hb hy d24_3) rfl rfl <| o_aloadN W1 5 (hb hy d24_4) rfl rfl rfl ?_
  have c2 := (z1.ext E1)
  have c3 := (z2.ext E1)
  have c4 := (z3.ext E1)
  have c5 := (z4.ext E1)
  have c6 := (z5.ext E1)
  refine o_specialC W1 rfl (w143 hw) (w144 hw) (w145 hw) (by decide) (w3 hw) (rm77 l hw gCS b1 a1 a2 z0 x1 x2 x3 x4 h1 W1.old c2 c3 c4 SgCS NgCS c5 A1 Fb1_coder c6 Fb1_value gz1) 1 2 9 (by decide) (by rw [hml]; rfl) (lenOf pd21 rfl) [(.ref b1)] rfl rfl 8 (hb hy d24_5) rfl rfl rfl (allS ⟨gz1, (Or.inr gb1)⟩ all0) tri ?_
  intro v7 T7 h7 lo7 W7 K7 q7
  obtain ⟨r1_7, r2_7, P7_0, P7_1, P7_2, P7_3, rfl⟩ := q7.2.2
  show Gl _ _ _ _ _ _ _ _ [(.ref b1)]
  have c8 := (A1.keep K7)
  exact o_retA W7 hlk (v := (.ref b1)) hret rfl rfl (hb hy d24_8) (by decide) (by decide) ⟨b1, r1_7, r2_7, gb1, (Nat.le_trans W1.keep.1 P7_0), c8, P7_2, P7_1, P7_3, rfl⟩
theorem rm79 (l : Launch) {Z a0} (hw : HW Z a0) (gCS : Int32) (a1 a2 a3 : Addr) (z0 : ClassId) (x1 x2 x3 x4 : Int32) (h0 : Heap) (O0 : Old Z Z.heap.size h0) (z1 : Fld Z h0 a1 s4 "out" s5 (.ref a2)) (z2 : Exa Z h0 a2 s2) (z3 : Fld Z h0 a2 s1 "value" "[B" (.ref a3)) (z4 : Fld Z h0 a2 s1 "count" "I" (.int 5)) (SgCS : Sta Z Z.heap s0 s3 "Z" (.int gCS)) (NgCS : ¬ (gCS = (0 : Int32))) (z5 : Fld Z h0 a2 s1 "coder" "B" iZ) (z6 : Arv Z h0 a3 z0 .byte 16 [(.int x1), (.int x2), (.int x3), (.int x4), (.int 62), iZ, iZ, iZ, iZ, iZ, iZ, iZ, iZ, iZ, iZ, iZ] iZ) :
    CtrN l Z mn28 prog_5_method_8_code 1 (some (.object s0)) [] (⟨6, 2, 9, 100⟩ : Room) #[(.ref a1)] h0 [] (fun v h => ∃ r1 : Addr, ∃ r2 : Addr, ∃ r3 : ClassId, h0.size ≤ r1 ∧ h0.size ≤ r2 ∧ Exa Z h r1 s0 ∧ Fld Z h r1 s0 "value" "[B" (.ref r2) ∧ Fld Z h r1 s0 "coder" "B" iZ ∧ Arv Z h r2 r3 .byte 5 [(.int x1), (.int x2), (.int x3), (.int x4), (.int 62)] iZ ∧ v = some (.ref r1)) := by
  refine CtrN.intro (L0 := #[vr a1]) (plainFor_of_name pn3) O0 (own_entry rfl) ?_
  intro p e s m below meth c T0 hy hml hret hlk hnm W0
  refine o_aloadN W0 1 (hb hy d23_0) rfl rfl rfl ?_
  refine o_getF W0 (w59 hw) Via.refl z1 4 (hb hy d23_1) rfl ?_
  intro T1 W1
  refine o_virtualC W1 (w137 hw) (w138 hw) (o_nf W1 rfl (w140 hw)) (w140 hw) (w139 hw) (by decide) z2 (w141 hw) (w43 hw) (rm78 l hw gCS a2 a3 z0 x1 x2 x3 x4 h0 W1.old z2 z3 z4 SgCS NgCS z5 z6) 0 2 9 (by decide) (by rw [hml]; rfl) (lenOf pd22 rfl) [] rfl rfl 7 (hb hy d23_4) rfl rfl rfl all0 tri ?_
  intro v2 T2 h2 lo2 W2 K2 q2
  obtain ⟨r1_2, r2_2, r3_2, P2_0, P2_1, P2_2, P2_3, P2_4, P2_5, rfl⟩ := q2.2.2
  show Gl _ _ _ _ _ _ _ _ [(.ref r1_2)]
  exact o_retA W2 hlk (v := (.ref r1_2)) hret rfl rfl (hb hy d23_7) (by decide) (by decide) ⟨r1_2, r2_2, r3_2, (Nat.le_trans W1.keep.1 P2_0), (Nat.le_trans W1.keep.1 P2_1), P2_2, P2_3, P2_4, P2_5, rfl⟩
theorem rm80 (l : Launch) {Z a0} (hw : HW Z a0) (a1 a2 : Addr) (z0 : ClassId) (x1 x2 : Int32) (z1 : ClassId) (x3 x4 x5 x6 : Int32) (h0 : Heap) (O0 : Old Z Z.heap.size h0) (z2 : Arv Z h0 a1 z0 .byte 5 [(.int (b8 60)), (.int (b8 47)), (.int (b8 x1)), (.int (b8 x2)), (.int (b8 62))] iZ) (z3 : Arv Z h0 a2 z1 .byte 5 [(.int x3), (.int x4), (.int x5), (.int x6), (.int 62)] iZ) (hc1 : (b8 60) = x3) (hc2 : (b8 47) = x4) (hc3 : (b8 x1) = x5) (hc4 : (b8 x2) = x6) :
    CtrN l Z mn29 jdk_43_method_13_code 3 (some .boolean) [] (⟨0, 0, 0, 0⟩ : Room) #[(.ref a1), (.ref a2)] h0 [] (fun v h => v = some (.int 1)) := by
  refine CtrN.intro (L0 := #[vr a1, vr a2, un]) (plainFor_of_name pn4) O0 (own_entry rfl) ?_
  intro p e s m below meth c T0 hy hml hret hlk hnm W0
  refine o_aloadN W0 1 (hb hy d35_0) rfl rfl rfl <| o_len W0 z2 2 (hb hy d35_1) rfl <| o_aloadN W0 3 (hb hy d35_2) rfl rfl rfl <| o_len W0 z3 4 (hb hy d35_3) rfl <| o_icmpN W0 7 (hb hy d35_4) (XT.ii_ne_f (by decide)) rfl <| o_iconst W0 (v := 0) 8 (hb hy d35_7) rfl rfl ?_
  refine o_istoreN W0 (L' := #[vr a1, vr a2, vi 0]) 9 (hb hy d35_8) rfl rfl <| o_iloadN W0 10 (hb hy d35_9) rfl rfl <| o_aloadN W0 11 (hb hy d35_10) rfl rfl rfl <| o_len W0 z2 12 (hb hy d35_11) rfl <| o_icmpN W0 15 (hb hy d35_12) (XT.ii_ge_f (by decide)) rfl <| o_aloadN W0 16 (hb hy d35_15) rfl rfl rfl ?_
  refine o_iloadN W0 17 (hb hy d35_16) rfl rfl <| o_baload W0 z2 (x := (b8 60)) (i := 0) (by decide) (by decide) (by decide) rfl 18 (hb hy d35_17) rfl <| o_aloadN W0 19 (hb hy d35_18) rfl rfl rfl <| o_iloadN W0 20 (hb hy d35_19) rfl rfl <| o_baload W0 z3 (x := x3) (i := 0) (by decide) (by decide) (by decide) rfl 21 (hb hy d35_20) rfl <| o_icmpY W0 26 (hb hy d35_21) (XT.ii_eq_t hc1) (by decide) rfl ?_
  refine o_iinc W0 (v := 1) (L' := #[vr a1, vr a2, vi 1]) 29 (hb hy d35_26) rfl (by decide) rfl rfl <| o_goto W0 9 (hb hy d35_29) (by decide) rfl <| o_iloadN W0 10 (hb hy d35_9) rfl rfl <| o_aloadN W0 11 (hb hy d35_10) rfl rfl rfl <| o_len W0 z2 12 (hb hy d35_11) rfl <| o_icmpN W0 15 (hb hy d35_12) (XT.ii_ge_f (by decide)) rfl ?_
  refine o_aloadN W0 16 (hb hy d35_15) rfl rfl rfl <| o_iloadN W0 17 (hb hy d35_16) rfl rfl <| o_baload W0 z2 (x := (b8 47)) (i := 1) (by decide) (by decide) (by decide) rfl 18 (hb hy d35_17) rfl <| o_aloadN W0 19 (hb hy d35_18) rfl rfl rfl <| o_iloadN W0 20 (hb hy d35_19) rfl rfl <| o_baload W0 z3 (x := x4) (i := 1) (by decide) (by decide) (by decide) rfl 21 (hb hy d35_20) rfl ?_
  refine o_icmpY W0 26 (hb hy d35_21) (XT.ii_eq_t hc2) (by decide) rfl <| o_iinc W0 (v := 2) (L' := #[vr a1, vr a2, vi 2]) 29 (hb hy d35_26) rfl (by decide) rfl rfl <| o_goto W0 9 (hb hy d35_29) (by decide) rfl <| o_iloadN W0 10 (hb hy d35_9) rfl rfl <| o_aloadN W0 11 (hb hy d35_10) rfl rfl rfl <| o_len W0 z2 12 (hb hy d35_11) rfl ?_
  refine o_icmpN W0 15 (hb hy d35_12) (XT.ii_ge_f (by decide)) rfl <| o_aloadN W0 16 (hb hy d35_15) rfl rfl rfl <| o_iloadN W0 17 (hb hy d35_16) rfl rfl <| o_baload W0 z2 (x := (b8 x1)) (i := 2) (by decide) (by decide) (by decide) rfl 18 (hb hy d35_17) rfl <| o_aloadN W0 19 (hb hy d35_18) rfl rfl rfl <| o_iloadN W0 20 (hb hy d35_19) rfl rfl ?_
  refine o_baload W0 z3 (x := x5) (i := 2) (by decide) (by decide) (by decide) rfl 21 (hb hy d35_20) rfl <| o_icmpY W0 26 (hb hy d35_21) (XT.ii_eq_t hc3) (by decide) rfl <| o_iinc W0 (v := 3) (L' := #[vr a1, vr a2, vi 3]) 29 (hb hy d35_26) rfl (by decide) rfl rfl <| o_goto W0 9 (hb hy d35_29) (by decide) rfl <| o_iloadN W0 10 (hb hy d35_9) rfl rfl <| o_aloadN W0 11 (hb hy d35_10) rfl rfl rfl ?_
  refine o_len W0 z2 12 (hb hy d35_11) rfl <| o_icmpN W0 15 (hb hy d35_12) (XT.ii_ge_f (by decide)) rfl <| o_aloadN W0 16 (hb hy d35_15) rfl rfl rfl <| o_iloadN W0 17 (hb hy d35_16) rfl rfl <| o_baload W0 z2 (x := (b8 x2)) (i := 3) (by decide) (by decide) (by decide) rfl 18 (hb hy d35_17) rfl <| o_aloadN W0 19 (hb hy d35_18) rfl rfl rfl ?_
  refine o_iloadN W0 20 (hb hy d35_19) rfl rfl <| o_baload W0 z3 (x := x6) (i := 3) (by decide) (by decide) (by decide) rfl 21 (hb hy d35_20) rfl <| o_icmpY W0 26 (hb hy d35_21) (XT.ii_eq_t hc4) (by decide) rfl <| o_iinc W0 (v := 4) (L' := #[vr a1, vr a2, vi 4]) 29 (hb hy d35_26) rfl (by decide) rfl rfl <| o_goto W0 9 (hb hy d35_29) (by decide) rfl <| o_iloadN W0 10 (hb hy d35_9) rfl rfl ?_
  refine o_aloadN W0 11 (hb hy d35_10) rfl rfl rfl <| o_len W0 z2 12 (hb hy d35_11) rfl <| o_icmpN W0 15 (hb hy d35_12) (XT.ii_ge_f (by decide)) rfl <| o_aloadN W0 16 (hb hy d35_15) rfl rfl rfl <| o_iloadN W0 17 (hb hy d35_16) rfl rfl <| o_baload W0 z2 (x := (b8 62)) (i := 4) (by decide) (by decide) (by decide) rfl 18 (hb hy d35_17) rfl ?_
  refine o_aloadN W0 19 (hb hy d35_18) rfl rfl rfl <| o_iloadN W0 20 (hb hy d35_19) rfl rfl <| o_baload W0 z3 (x := (62 : Int32)) (i := 4) (by decide) (by decide) (by decide) rfl 21 (hb hy d35_20) rfl <| o_icmpY W0 26 (hb hy d35_21) (XT.ii_eq_t (by decide)) (by decide) rfl <| o_iinc W0 (v := 5) (L' := #[vr a1, vr a2, vi 5]) 29 (hb hy d35_26) rfl (by decide) rfl rfl <| o_goto W0 9 (hb hy d35_29) (by decide) rfl ?_
  refine o_iloadN W0 10 (hb hy d35_9) rfl rfl <| o_aloadN W0 11 (hb hy d35_10) rfl rfl rfl <| o_len W0 z2 12 (hb hy d35_11) rfl <| o_icmpY W0 32 (hb hy d35_12) (XT.ii_ge_t (by decide)) (by decide) rfl <| o_iconst W0 (v := 1) 33 (hb hy d35_32) rfl rfl ?_
  exact o_retN W0 hlk (t := .boolean) hret (by simp) (z' := (1 : Int32)) (by decide) (hb hy d35_33) (by decide) (by decide) rfl
theorem rm81 (l : Launch) {Z a0} (hw : HW Z a0) (gCS : Int32) (a1 a2 a3 a4 : Addr) (z0 : ClassId) (x1 x2 : Int32) (z1 : ClassId) (x3 x4 x5 x6 : Int32) (h0 : Heap) (O0 : Old Z Z.heap.size h0) (z2 : Exa Z h0 a1 s0) (z3 : Exa Z h0 a2 s0) (z4 : a1 ≠ a2) (SgCS : Sta Z Z.heap s0 s3 "Z" (.int gCS)) (NgCS : ¬ (gCS = (0 : Int32))) (z5 : Fld Z h0 a1 s0 "coder" "B" iZ) (z6 : Fld Z h0 a2 s0 "coder" "B" iZ) (z7 : Fld Z h0 a1 s0 "value" "[B" (.ref a3)) (z8 : Fld Z h0 a2 s0 "value" "[B" (.ref a4)) (z9 : Arv Z h0 a3 z0 .byte 5 [(.int (b8 60)), (.int (b8 47)), (.int (b8 x1)), (.int (b8 x2)), (.int (b8 62))] iZ) (z10 : Arv Z h0 a4 z1 .byte 5 [(.int x3), (.int x4), (.int x5), (.int x6), (.int 62)] iZ) (hc8 : (b8 60) = x3) (hc9 : (b8 47) = x4) (hc10 : (b8 x1) = x5) (hc11 : (b8 x2) = x6) :
    CtrN l Z mn30 jdk_42_method_66_code 3 (some .boolean) [] (⟨1, 0, 0, 14⟩ : Room) #[(.ref a1), (.ref a2)] h0 [] (fun v h => v = some (.int 1)) := by
  refine CtrN.intro (L0 := #[vr a1, vr a2, un]) (plainFor_of_name pn0) O0 (own_entry rfl) ?_
  intro p e s m below meth c T0 hy hml hret hlk hnm W0
  refine o_aloadN W0 1 (hb hy d34_0) rfl rfl rfl <| o_aloadN W0 2 (hb hy d34_1) rfl rfl rfl ?_
  refine o_acmpY W0 7 (hb hy d34_2) rfl rfl (XT.aa_ne_t (fun q => z4 (Value.ref.inj q))) (by decide) rfl ?_
  refine o_aloadN W0 8 (hb hy d34_7) rfl rfl rfl ?_
  refine o_instY W0 (w183 hw) (Ins.self z3) 11 (hb hy d34_8) rfl ?_
  intro T1 W1
  refine o_ifN W1 14 (hb hy d34_11) (XT.i0_eq_f (by decide)) rfl <| o_aloadN W1 15 (hb hy d34_14) rfl rfl rfl ?_
  refine o_cast W1 (w183 hw) (Ins.self z3) 18 (hb hy d34_15) rfl ?_
  intro T2 W2
  refine o_astoreN W2 (L' := #[vr a1, vr a2, vr a2]) 19 (hb hy d34_18) rfl rfl rfl ?_
  refine o_getS W2 (w22 hw) Via.refl (SgCS.ext W2.ox) 22 (hb hy d34_19) rfl ?_
  intro T3 W3
  refine o_ifN W3 25 (hb hy d34_22) (XT.i0_eq_f NgCS) rfl <| o_aloadN W3 26 (hb hy d34_25) rfl rfl rfl ?_
  refine o_getF W3 (w21 hw) Via.refl z5 29 (hb hy d34_26) rfl ?_
  intro T4 W4
  refine o_aloadN W4 30 (hb hy d34_29) rfl rfl rfl ?_
  refine o_getF W4 (w21 hw) Via.refl z6 33 (hb hy d34_30) rfl ?_
  intro T5 W5
  refine o_icmpN W5 36 (hb hy d34_33) (XT.ii_ne_f (by decide)) rfl <| o_aloadN W5 37 (hb hy d34_36) rfl rfl rfl ?_
  refine o_getF W5 (w20 hw) Via.refl z7 40 (hb hy d34_37) rfl ?_
  intro T6 W6
  refine o_aloadN W6 41 (hb hy d34_40) rfl rfl rfl ?_
  refine o_getF W6 (w20 hw) Via.refl z8 44 (hb hy d34_41) rfl ?_
  intro T7 W7
  refine o_staticC W7 (w184 hw) (w185 hw) (w130 hw) (w186 hw) (by decide) (rm80 l hw a3 a4 z0 x1 x2 z1 x3 x4 x5 x6 h0 W7.old z9 z10 hc8 hc9 hc10 hc11) 0 0 0 (by decide) (by rw [hml]; rfl) (lenOf pd23 rfl) [] rfl rfl 47 (hb hy d34_44) rfl rfl rfl all0 tri ?_
  intro v12 T12 h12 lo12 W12 K12 q12
  obtain rfl := q12.2.2
  show Gl _ _ _ _ _ _ _ _ [(.int 1)]
  refine o_ifN W12 50 (hb hy d34_47) (XT.i0_eq_f (by decide)) rfl <| o_iconst W12 (v := 1) 51 (hb hy d34_50) rfl rfl <| o_goto W12 55 (hb hy d34_51) (by decide) rfl ?_
  exact o_retN W12 hlk (t := .boolean) hret (by simp) (z' := (1 : Int32)) (by decide) (hb hy d34_55) (by decide) (by decide) rfl
theorem rm82 (l : Launch) {Z a0} (hw : HW Z a0) (gCS : Int32) (a1 a2 : Addr) (z0 : ClassId) (x1 x2 x3 : Int32) (h0 : Heap) (O0 : Old Z Z.heap.size h0) (z1 : Fld Z h0 a1 s0 "value" "[B" (.ref a2)) (z2 : Arv Z h0 a2 z0 .byte 3 [(.int (b8 x1)), (.int (b8 x2)), (.int (b8 x3))] iZ) (z3 : Exa Z h0 a1 s0) (SgCS : Sta Z Z.heap s0 s3 "Z" (.int gCS)) (NgCS : ¬ (gCS = (0 : Int32))) (z4 : Fld Z h0 a1 s0 "coder" "B" iZ) :
    CtrN l Z mn6 jdk_42_method_54_code 1 (some .int) [] (⟨1, 0, 0, 13⟩ : Room) #[(.ref a1)] h0 [] (fun v h => v = some (.int 3)) := by
  refine CtrN.intro (L0 := #[vr a1]) (plainFor_of_name pn0) O0 (own_entry rfl) ?_
  intro p e s m below meth c T0 hy hml hret hlk hnm W0
  refine o_aloadN W0 1 (hb hy d13_0) rfl rfl rfl ?_
  refine o_getF W0 (w20 hw) Via.refl z1 4 (hb hy d13_1) rfl ?_
  intro T1 W1
  refine o_len W1 z2 5 (hb hy d13_4) rfl <| o_aloadN W1 6 (hb hy d13_5) rfl rfl rfl ?_
  refine o_virtualC W1 (w82 hw) (w83 hw) (o_nf W1 rfl (w85 hw)) (w85 hw) (w84 hw) (by decide) z3 (w86 hw) (w3 hw) (rm6 l hw gCS a1 h0 W1.old SgCS NgCS z4) 1 0 0 (by decide) (by rw [hml]; rfl) (lenOf pd4 rfl) [(.int 3)] rfl rfl 9 (hb hy d13_6) rfl rfl rfl all0 tri ?_
  intro v2 T2 h2 lo2 W2 K2 q2
  obtain rfl := q2.2.2
  show Gl _ _ _ _ _ _ _ _ [iZ, (.int 3)]
  refine o_ishr W2 (v := 3) 10 (hb hy d13_9) (by decide) rfl ?_
  exact o_retI W2 hlk hret (hb hy d13_10) (by decide) (by decide) rfl
theorem rm83 (l : Launch) {Z a0} (hw : HW Z a0) (a1 a2 : Addr) (z0 : ClassId) (x1 x2 : Int32) (h0 : Heap) (O0 : Old Z Z.heap.size h0) (z1 : Fld Z h0 a1 s1 "value" "[B" (.ref a2)) (z2 : Arv Z h0 a2 z0 .byte 16 [(.int x1), (.int x2), iZ, iZ, iZ, iZ, iZ, iZ, iZ, iZ, iZ, iZ, iZ, iZ, iZ, iZ] iZ) (z3 : Fld Z h0 a1 s1 "coder" "B" iZ) :
    CtrN l Z mn7 jdk_68_method_9_code 3 none [] (⟨0, 0, 0, 0⟩ : Room) #[(.ref a1), (.int 5)] h0 [] (fun v h => v = none) := by
  refine CtrN.intro (L0 := #[vr a1, vi 5, un]) (plainFor_of_name pn1) O0 (own_entry rfl) ?_
  intro p e s m below meth c T0 hy hml hret hlk hnm W0
  refine o_aloadN W0 1 (hb hy d15_0) rfl rfl rfl ?_
  refine o_getF W0 (w55 hw) Via.refl z1 4 (hb hy d15_1) rfl ?_
  intro T1 W1
  refine o_len W1 z2 5 (hb hy d15_4) rfl <| o_aloadN W1 6 (hb hy d15_5) rfl rfl rfl ?_
  refine o_getF W1 (w57 hw) Via.refl z3 9 (hb hy d15_6) rfl ?_
  intro T2 W2
  refine o_ishr W2 (v := 16) 10 (hb hy d15_9) (by decide) rfl <| o_istoreN W2 (L' := #[vr a1, vi 5, vi 16]) 11 (hb hy d15_10) rfl rfl <| o_iloadN W2 12 (hb hy d15_11) rfl rfl <| o_iloadN W2 13 (hb hy d15_12) rfl rfl <| o_isub W2 (v := (-11 : Int32)) 14 (hb hy d15_13) (by decide) rfl <| o_ifY W2 38 (hb hy d15_14) (XT.i0_le_t (by decide)) (by decide) rfl ?_
  exact o_ret0 W2 hlk hret (hb hy d15_38) (by decide) (by decide) rfl
theorem rm84 (l : Launch) {Z a0} (hw : HW Z a0) (gCS : Int32) (a1 a2 a3 : Addr) (z0 : ClassId) (x1 x2 x3 : Int32) (z1 : ClassId) (x4 x5 : Int32) (h0 : Heap) (O0 : Old Z Z.heap.size h0) (z2 : Exa Z h0 a1 s0) (SgCS : Sta Z Z.heap s0 s3 "Z" (.int gCS)) (NgCS : ¬ (gCS = (0 : Int32))) (z3 : Fld Z h0 a1 s0 "coder" "B" iZ) (z4 : Fld Z h0 a1 s0 "value" "[B" (.ref a3)) (z5 : Arv Z h0 a3 z0 .byte 3 [(.int (b8 x1)), (.int (b8 x2)), (.int (b8 x3))] iZ) (z6 : Arv Z h0 a2 z1 .byte 16 [(.int x4), (.int x5), iZ, iZ, iZ, iZ, iZ, iZ, iZ, iZ, iZ, iZ, iZ, iZ, iZ, iZ] iZ) (z7 : Z.heap.size ≤ a2) :
    CtrN l Z mn9 jdk_42_method_147_code 4 none [] (⟨1, 0, 0, 27⟩ : Room) #[(.ref a1), (.ref a2), (.int 2), iZ] h0 [a2] (fun v h => Arv Z h a2 z1 .byte 16 [(.int x4), (.int x5), (.int (b8 x1)), (.int (b8 x2)), (.int (b8 x3)), iZ, iZ, iZ, iZ, iZ, iZ, iZ, iZ, iZ, iZ, iZ] iZ ∧ v = none) := by
  refine CtrN.intro (L0 := #[vr a1, vr a2, vi 2, vi 0]) (plainFor_of_name pn0) O0 (own_entry rfl) ?_
  intro p e s m below meth c T0 hy hml hret hlk hnm W0
  refine o_aloadN W0 1 (hb hy d18_0) rfl rfl rfl ?_
  refine o_virtualC W0 (w82 hw) (w83 hw) (o_nf W0 rfl (w85 hw)) (w85 hw) (w84 hw) (by decide) z2 (w86 hw) (w3 hw) (rm6 l hw gCS a1 h0 W0.old SgCS NgCS z3) 0 0 0 (by decide) (by rw [hml]; rfl) (lenOf pd4 rfl) [] rfl rfl 4 (hb hy d18_1) rfl rfl rfl all0 tri ?_
  intro v1 T1 h1 lo1 W1 K1 q1
  obtain rfl := q1.2.2
  show Gl _ _ _ _ _ _ _ _ [iZ]
  refine o_iloadN W1 5 (hb hy d18_4) rfl rfl <| o_icmpN W1 8 (hb hy d18_5) (XT.ii_ne_f (by decide)) rfl <| o_aloadN W1 9 (hb hy d18_8) rfl rfl rfl ?_
  have c2 := (z4.keep K1 nin0)
  refine o_getF W1 (w20 hw) Via.refl c2 12 (hb hy d18_9) rfl ?_
  intro T3 W3
  refine o_iconst W3 (v := 0) 13 (hb hy d18_12) rfl rfl <| o_aloadN W3 14 (hb hy d18_13) rfl rfl rfl <| o_iloadN W3 15 (hb hy d18_14) rfl rfl <| o_iloadN W3 16 (hb hy d18_15) rfl rfl <| o_ishl W3 (v := 2) 17 (hb hy d18_16) (by decide) rfl <| o_aloadN W3 18 (hb hy d18_17) rfl rfl rfl ?_
  refine o_getF W3 (w20 hw) Via.refl c2 21 (hb hy d18_18) rfl ?_
  intro T4 W4
  have c5 := (z5.keep K1 nin0)
  refine o_len W4 c5 22 (hb hy d18_21) rfl ?_
  have c6 := (z6.keep K1 nin0)
  refine o_copy W4 (w110 hw) (w113 hw) (w111 hw) (w112 hw) c5 c6 (us := [(.int (b8 x1)), (.int (b8 x2)), (.int (b8 x3))]) (Or.inl ⟨rfl, rfl⟩) (by decide) (by decide) (by decide) (by decide) (by decide) rfl (Nat.le_of_ble_eq_true rfl) (vd' := [(.int x4), (.int x5), (.int (b8 x1)), (.int (b8 x2)), (.int (b8 x3)), iZ, iZ, iZ, iZ, iZ, iZ, iZ, iZ, iZ, iZ, iZ]) rfl z7 m0 tri (by rw [hml]; rfl) 25 (hb hy d18_22) rfl (by decide) 0 (by exact Nat.le_of_eq rfl) (by decide) ?_
  intro T7 h7 lo7 W7 K7 V7
  refine o_goto W7 43 (hb hy d18_25) (by decide) rfl ?_
  exact o_ret0 W7 hlk hret (hb hy d18_43) (by decide) (by decide) ⟨V7, rfl⟩
theorem rm85 (l : Launch) {Z a0} (hw : HW Z a0) (gCS : Int32) (a1 a2 a3 a4 : Addr) (z0 : ClassId) (x1 x2 x3 : Int32) (z1 : ClassId) (x4 x5 : Int32) (h0 : Heap) (O0 : Old Z Z.heap.size h0) (z2 : Exa Z h0 a1 s2) (SgCS : Sta Z Z.heap s0 s3 "Z" (.int gCS)) (NgCS : ¬ (gCS = (0 : Int32))) (z3 : Fld Z h0 a1 s1 "coder" "B" iZ) (z4 : Exa Z h0 a2 s0) (z5 : Fld Z h0 a2 s0 "coder" "B" iZ) (z6 : Fld Z h0 a1 s1 "value" "[B" (.ref a3)) (z7 : Fld Z h0 a2 s0 "value" "[B" (.ref a4)) (z8 : Arv Z h0 a4 z0 .byte 3 [(.int (b8 x1)), (.int (b8 x2)), (.int (b8 x3))] iZ) (z9 : Arv Z h0 a3 z1 .byte 16 [(.int x4), (.int x5), iZ, iZ, iZ, iZ, iZ, iZ, iZ, iZ, iZ, iZ, iZ, iZ, iZ, iZ] iZ) (z10 : Z.heap.size ≤ a3) :
    CtrN l Z mn10 jdk_68_method_73_code 3 none [] (⟨2, 0, 0, 42⟩ : Room) #[(.ref a1), (.int 2), (.ref a2)] h0 [a3] (fun v h => Arv Z h a3 z1 .byte 16 [(.int x4), (.int x5), (.int (b8 x1)), (.int (b8 x2)), (.int (b8 x3)), iZ, iZ, iZ, iZ, iZ, iZ, iZ, iZ, iZ, iZ, iZ] iZ ∧ v = none) := by
  refine CtrN.intro (L0 := #[vr a1, vi 2, vr a2]) (plainFor_of_name pn1) O0 (own_entry rfl) ?_
  intro p e s m below meth c T0 hy hml hret hlk hnm W0
  refine o_aloadN W0 1 (hb hy d16_0) rfl rfl rfl <| o_aloadN W0 2 (hb hy d16_1) rfl rfl rfl ?_
  refine o_privateC W0 (w99 hw) (w100 hw) (w102 hw) (w101 hw) (w103 hw) (by decide) z2 (w51 hw) (rm9 l hw gCS a1 a2 h0 W0.old SgCS NgCS z3 z4 z5) 0 0 0 (by decide) (by rw [hml]; rfl) (lenOf pd6 rfl) [] rfl rfl 5 (hb hy d16_2) rfl rfl rfl all0 tri ?_
  intro v1 T1 h1 lo1 W1 K1 q1
  obtain rfl := q1.2.2
  show Gl _ _ _ _ _ _ _ _ []
  refine o_aloadN W1 6 (hb hy d16_5) rfl rfl rfl <| o_aloadN W1 7 (hb hy d16_6) rfl rfl rfl ?_
  have c2 := (z6.keep K1 nin0)
  refine o_getF W1 (w55 hw) Via.refl c2 10 (hb hy d16_7) rfl ?_
  intro T3 W3
  refine o_iloadN W3 11 (hb hy d16_10) rfl rfl <| o_aloadN W3 12 (hb hy d16_11) rfl rfl rfl ?_
  have c4 := (z3.keep K1 nin0)
  refine o_getF W3 (w57 hw) Via.refl c4 15 (hb hy d16_12) rfl ?_
  intro T5 W5
  have c6 := (z5.keep K1 nin0)
  have c7 := (z7.keep K1 nin0)
  have c8 := (z8.keep K1 nin0)
  have c9 := (z9.keep K1 nin0)
  have c10 := (z4.keep K1)
  refine o_virtualC W5 (w105 hw) (w106 hw) (o_nf W5 rfl (w108 hw)) (w108 hw) (w107 hw) (by decide) c10 (w109 hw) (w3 hw) (rm84 l hw gCS a2 a3 a4 z0 x1 x2 x3 z1 x4 x5 h1 W5.old c10 SgCS NgCS c6 c7 c8 c9 z10) 0 0 0 (by decide) (by rw [hml]; rfl) (lenOf pd7 rfl) [] rfl rfl 18 (hb hy d16_15) rfl rfl rfl (allS ⟨z10, m0⟩ all0) tri ?_
  intro v11 T11 h11 lo11 W11 K11 q11
  obtain ⟨P11_0, rfl⟩ := q11.2.2
  show Gl _ _ _ _ _ _ _ _ []
  exact o_ret0 W11 hlk hret (hb hy d16_18) (by decide) (by decide) ⟨P11_0, rfl⟩
theorem rm86 (l : Launch) {Z a0} (hw : HW Z a0) (gCS : Int32) (a1 a2 a3 : Addr) (z0 : ClassId) (x1 x2 x3 : Int32) (a4 : Addr) (z1 : ClassId) (x4 x5 : Int32) (h0 : Heap) (O0 : Old Z Z.heap.size h0) (z2 : Exa Z h0 a2 s0) (z3 : Fld Z h0 a2 s0 "value" "[B" (.ref a3)) (z4 : Arv Z h0 a3 z0 .byte 3 [(.int (b8 x1)), (.int (b8 x2)), (.int (b8 x3))] iZ) (SgCS : Sta Z Z.heap s0 s3 "Z" (.int gCS)) (NgCS : ¬ (gCS = (0 : Int32))) (z5 : Fld Z h0 a2 s0 "coder" "B" iZ) (z6 : Fld Z h0 a1 s1 "count" "I" (.int 2)) (z7 : Exa Z h0 a1 s2) (z8 : Fld Z h0 a1 s1 "value" "[B" (.ref a4)) (z9 : Arv Z h0 a4 z1 .byte 16 [(.int x4), (.int x5), iZ, iZ, iZ, iZ, iZ, iZ, iZ, iZ, iZ, iZ, iZ, iZ, iZ, iZ] iZ) (z10 : Fld Z h0 a1 s1 "coder" "B" iZ) (z11 : Z.heap.size ≤ a4) (z12 : Z.heap.size ≤ a1) :
    CtrN l Z mn11 jdk_68_method_22_code 3 (some (.object s1)) [] (⟨3, 0, 0, 56⟩ : Room) #[(.ref a1), (.ref a2)] h0 [a4, a1] (fun v h => Fld Z h a1 s1 "count" "I" (.int 5) ∧ Fld Z h a1 s1 "value" "[B" (.ref a4) ∧ Arv Z h a4 z1 .byte 16 [(.int x4), (.int x5), (.int (b8 x1)), (.int (b8 x2)), (.int (b8 x3)), iZ, iZ, iZ, iZ, iZ, iZ, iZ, iZ, iZ, iZ, iZ] iZ ∧ Fld Z h a1 s1 "coder" "B" iZ ∧ v = some (.ref a1)) := by
  refine CtrN.intro (L0 := #[vr a1, vr a2, un]) (plainFor_of_name pn1) O0 (own_entry rfl) ?_
  intro p e s m below meth c T0 hy hml hret hlk hnm W0
  refine o_aloadN W0 1 (hb hy d12_0) rfl rfl rfl ?_
  refine o_ifnonnullY W0 9 (hb hy d12_1) (by decide) rfl ?_
  refine o_aloadN W0 10 (hb hy d12_9) rfl rfl rfl ?_
  refine o_virtualC W0 (w77 hw) (w78 hw) (o_nf W0 rfl (w80 hw)) (w80 hw) (w79 hw) (by decide) z2 (w81 hw) (w3 hw) (rm82 l hw gCS a2 a3 z0 x1 x2 x3 h0 W0.old z3 z4 z2 SgCS NgCS z5) 0 0 0 (by decide) (by rw [hml]; rfl) (lenOf pd5 rfl) [] rfl rfl 13 (hb hy d12_10) rfl rfl rfl all0 tri ?_
  intro v1 T1 h1 lo1 W1 K1 q1
  obtain rfl := q1.2.2
  show Gl _ _ _ _ _ _ _ _ [(.int 3)]
  refine o_istoreN W1 (L' := #[vr a1, vr a2, vi 3]) 14 (hb hy d12_13) rfl rfl <| o_aloadN W1 15 (hb hy d12_14) rfl rfl rfl <| o_aloadN W1 16 (hb hy d12_15) rfl rfl rfl ?_
  have c2 := (z6.keep K1 nin0)
  refine o_getF W1 (w87 hw) Via.refl c2 19 (hb hy d12_16) rfl ?_
  intro T3 W3
  refine o_iloadN W3 20 (hb hy d12_19) rfl rfl <| o_iadd W3 (v := 5) 21 (hb hy d12_20) (by decide) rfl ?_
  have c4 := (z7.keep K1)
  have c5 := (z8.keep K1 nin0)
  have c6 := (z9.keep K1 nin0)
  have c7 := (z10.keep K1 nin0)
  refine o_privateC W3 (w89 hw) (w90 hw) (w92 hw) (w91 hw) (w93 hw) (by decide) c4 (w51 hw) (rm83 l hw a1 a4 z1 x4 x5 h1 W3.old c5 c6 c7) 0 0 0 (by decide) (by rw [hml]; rfl) (lenOf pd2 rfl) [] rfl rfl 24 (hb hy d12_21) rfl rfl rfl all0 tri ?_
  intro v8 T8 h8 lo8 W8 K8 q8
  obtain rfl := q8.2.2
  show Gl _ _ _ _ _ _ _ _ []
  refine o_aloadN W8 25 (hb hy d12_24) rfl rfl rfl <| o_aloadN W8 26 (hb hy d12_25) rfl rfl rfl ?_
  have c9 := (c2.keep K8 nin0)
  refine o_getF W8 (w87 hw) Via.refl c9 29 (hb hy d12_26) rfl ?_
  intro T10 W10
  refine o_aloadN W10 30 (hb hy d12_29) rfl rfl rfl ?_
  have c11 := (c7.keep K8 nin0)
  have c12 := ((z5.keep K1 nin0).keep K8 nin0)
  have c13 := (c5.keep K8 nin0)
  have c14 := ((z3.keep K1 nin0).keep K8 nin0)
  have c15 := ((z4.keep K1 nin0).keep K8 nin0)
  have c16 := (c6.keep K8 nin0)
  have c17 := (c4.keep K8)
  have c18 := ((z2.keep K1).keep K8)
  refine o_privateC W10 (w94 hw) (w95 hw) (w97 hw) (w96 hw) (w98 hw) (by decide) c17 (w51 hw) (rm85 l hw gCS a1 a2 a4 a3 z0 x1 x2 x3 z1 x4 x5 h8 W10.old c17 SgCS NgCS c11 c18 c12 c13 c14 c15 c16 z11) 0 0 0 (by decide) (by rw [hml]; rfl) (lenOf pd8 rfl) [] rfl rfl 33 (hb hy d12_30) rfl rfl rfl (allS ⟨z11, m0⟩ all0) tri ?_
  intro v19 T19 h19 lo19 W19 K19 q19
  obtain ⟨P19_0, rfl⟩ := q19.2.2
  show Gl _ _ _ _ _ _ _ _ []
  refine o_aloadN W19 34 (hb hy d12_33) rfl rfl rfl <| o_dup W19 35 (hb hy d12_34) rfl rfl ?_
  have c20 := (c17.keep K19)
  have c21 := (c9.keep K19 (ninS (Exa.neArv c17 c16 (w42 hw)) nin0))
  refine o_getF W19 (w87 hw) Via.refl c21 38 (hb hy d12_35) rfl ?_
  intro T22 W22
  refine o_iloadN W22 39 (hb hy d12_38) rfl rfl <| o_iadd W22 (v := 5) 40 (hb hy d12_39) (by decide) rfl ?_
  refine o_putF W22 (w87 hw) Via.refl c21 c20 (Or.inl (w88 hw)) (w42 hw) (ty := .int) (v' := (.int 5)) (by decide) rfl rfl z12 (Or.inl (List.mem_of_getElem? (i := 1) rfl)) tri 43 (hb hy d12_40) rfl ?_
  intro T23 h23 lo23 W23 R23
  have F23 := c21.same R23
  refine o_aloadN W23 44 (hb hy d12_43) rfl rfl rfl ?_
  have c24 := (c20.wr R23)
  have c25 := ((c13.keep K19 (ninS (Exa.neArv c17 c16 (w42 hw)) nin0)).other R23 (Or.inr (slot_ne (Or.inl (w56 hw)) (Or.inl (w88 hw)) (by decide) (t := (.array .byte)) (t' := .int) (by decide) (by decide))))
  have c26 := ((c11.keep K19 (ninS (Exa.neArv c17 c16 (w42 hw)) nin0)).other R23 (Or.inr (slot_ne (Or.inl (w58 hw)) (Or.inl (w88 hw)) (by decide) (t := .byte) (t' := .int) (by decide) (by decide))))
  have c27 := (P19_0.other R23 (Ne.symm (Exa.neArv c20 P19_0 (w42 hw))))
  exact o_retA W23 hlk (v := (.ref a1)) hret rfl rfl (hb hy d12_44) (by decide) (by decide) ⟨F23, c25, c27, c26, rfl⟩
theorem rm87 (l : Launch) {Z a0} (hw : HW Z a0) (gCS : Int32) (a1 a2 a3 : Addr) (z0 : ClassId) (x1 x2 x3 : Int32) (a4 : Addr) (z1 : ClassId) (x4 x5 : Int32) (h0 : Heap) (O0 : Old Z Z.heap.size h0) (z2 : Exa Z h0 a2 s0) (z3 : Fld Z h0 a2 s0 "value" "[B" (.ref a3)) (z4 : Arv Z h0 a3 z0 .byte 3 [(.int (b8 x1)), (.int (b8 x2)), (.int (b8 x3))] iZ) (SgCS : Sta Z Z.heap s0 s3 "Z" (.int gCS)) (NgCS : ¬ (gCS = (0 : Int32))) (z5 : Fld Z h0 a2 s0 "coder" "B" iZ) (z6 : Fld Z h0 a1 s1 "count" "I" (.int 2)) (z7 : Exa Z h0 a1 s2) (z8 : Fld Z h0 a1 s1 "value" "[B" (.ref a4)) (z9 : Arv Z h0 a4 z1 .byte 16 [(.int x4), (.int x5), iZ, iZ, iZ, iZ, iZ, iZ, iZ, iZ, iZ, iZ, iZ, iZ, iZ, iZ] iZ) (z10 : Fld Z h0 a1 s1 "coder" "B" iZ) (z11 : Z.heap.size ≤ a4) (z12 : Z.heap.size ≤ a1) :
    CtrN l Z mn12 jdk_67_method_7_code 2 (some (.object s2)) [] (⟨4, 0, 0, 70⟩ : Room) #[(.ref a1), (.ref a2)] h0 [a1, a4] (fun v h => Fld Z h a1 s1 "count" "I" (.int 5) ∧ Fld Z h a1 s1 "value" "[B" (.ref a4) ∧ Arv Z h a4 z1 .byte 16 [(.int x4), (.int x5), (.int (b8 x1)), (.int (b8 x2)), (.int (b8 x3)), iZ, iZ, iZ, iZ, iZ, iZ, iZ, iZ, iZ, iZ, iZ] iZ ∧ Fld Z h a1 s1 "coder" "B" iZ ∧ v = some (.ref a1)) := by
  refine CtrN.intro (L0 := #[vr a1, vr a2]) (plainFor_of_name pn2) O0 (own_entry rfl) ?_
  intro p e s m below meth c T0 hy hml hret hlk hnm W0
  refine o_aloadN W0 1 (hb hy d11_0) rfl rfl rfl <| o_aloadN W0 2 (hb hy d11_1) rfl rfl rfl ?_
  refine o_superC W0 (by decide) (w72 hw) (w73 hw) (own_sameN (y := mn11) (y2 := mn7) (by decide) (w73 hw) rfl (w90 hw) (w92 hw)) (w74 hw) (w76 hw) (Ins.self z7) (w51 hw) (rm86 l hw gCS a1 a2 a3 z0 x1 x2 x3 a4 z1 x4 x5 h0 W0.old z2 z3 z4 SgCS NgCS z5 z6 z7 z8 z9 z10 z11 z12) 0 0 0 (by decide) (by rw [hml]; rfl) (lenOf pd9 rfl) [] rfl rfl 5 (hb hy d11_2) rfl rfl rfl (allS ⟨z11, (Or.inl (List.mem_of_getElem? (i := 1) rfl))⟩ (allS ⟨z12, m0⟩ all0)) tri ?_
  intro v1 T1 h1 lo1 W1 K1 q1
  obtain ⟨P1_0, P1_1, P1_2, P1_3, rfl⟩ := q1.2.2
  show Gl _ _ _ _ _ _ _ _ [(.ref a1)]
  refine o_pop W1 6 (hb hy d11_5) rfl rfl <| o_aloadN W1 7 (hb hy d11_6) rfl rfl rfl ?_
  have c2 := (z7.keep K1)
  exact o_retA W1 hlk (v := (.ref a1)) hret rfl rfl (hb hy d11_7) (by decide) (by decide) ⟨P1_0, P1_1, P1_2, P1_3, rfl⟩
theorem rm88 (l : Launch) {Z a0} (hw : HW Z a0) (a1 a2 : Addr) (z0 : ClassId) (x1 x2 x3 x4 x5 : Int32) (h0 : Heap) (O0 : Old Z Z.heap.size h0) (z1 : Fld Z h0 a1 s1 "value" "[B" (.ref a2)) (z2 : Arv Z h0 a2 z0 .byte 16 [(.int x1), (.int x2), (.int x3), (.int x4), (.int x5), iZ, iZ, iZ, iZ, iZ, iZ, iZ, iZ, iZ, iZ, iZ] iZ) (z3 : Fld Z h0 a1 s1 "coder" "B" iZ) :
    CtrN l Z mn7 jdk_68_method_9_code 3 none [] (⟨0, 0, 0, 0⟩ : Room) #[(.ref a1), (.int 6)] h0 [] (fun v h => v = none) := by
  refine CtrN.intro (L0 := #[vr a1, vi 6, un]) (plainFor_of_name pn1) O0 (own_entry rfl) ?_
  intro p e s m below meth c T0 hy hml hret hlk hnm W0
  refine o_aloadN W0 1 (hb hy d15_0) rfl rfl rfl ?_
  refine o_getF W0 (w55 hw) Via.refl z1 4 (hb hy d15_1) rfl ?_
  intro T1 W1
  refine o_len W1 z2 5 (hb hy d15_4) rfl <| o_aloadN W1 6 (hb hy d15_5) rfl rfl rfl ?_
  refine o_getF W1 (w57 hw) Via.refl z3 9 (hb hy d15_6) rfl ?_
  intro T2 W2
  refine o_ishr W2 (v := 16) 10 (hb hy d15_9) (by decide) rfl <| o_istoreN W2 (L' := #[vr a1, vi 6, vi 16]) 11 (hb hy d15_10) rfl rfl <| o_iloadN W2 12 (hb hy d15_11) rfl rfl <| o_iloadN W2 13 (hb hy d15_12) rfl rfl <| o_isub W2 (v := (-10 : Int32)) 14 (hb hy d15_13) (by decide) rfl <| o_ifY W2 38 (hb hy d15_14) (XT.i0_le_t (by decide)) (by decide) rfl ?_
  exact o_ret0 W2 hlk hret (hb hy d15_38) (by decide) (by decide) rfl
theorem rm89 (l : Launch) {Z a0} (hw : HW Z a0) (gCS : Int32) (a1 a2 : Addr) (z0 : ClassId) (x1 x2 x3 x4 x5 : Int32) (h0 : Heap) (O0 : Old Z Z.heap.size h0) (z1 : Fld Z h0 a1 s1 "count" "I" (.int 5)) (z2 : Exa Z h0 a1 s2) (z3 : Fld Z h0 a1 s1 "value" "[B" (.ref a2)) (z4 : Arv Z h0 a2 z0 .byte 16 [(.int x1), (.int x2), (.int x3), (.int x4), (.int x5), iZ, iZ, iZ, iZ, iZ, iZ, iZ, iZ, iZ, iZ, iZ] iZ) (z5 : Fld Z h0 a1 s1 "coder" "B" iZ) (SgCS : Sta Z Z.heap s0 s3 "Z" (.int gCS)) (NgCS : ¬ (gCS = (0 : Int32))) (z6 : Z.heap.size ≤ a1) (z7 : Z.heap.size ≤ a2) :
    CtrN l Z mn15 jdk_68_method_31_code 2 (some (.object s1)) [] (⟨1, 0, 0, 14⟩ : Room) #[(.ref a1), (.int 62)] h0 [a1, a2] (fun v h => Fld Z h a1 s1 "count" "I" (.int 6) ∧ Fld Z h a1 s1 "value" "[B" (.ref a2) ∧ Arv Z h a2 z0 .byte 16 [(.int x1), (.int x2), (.int x3), (.int x4), (.int x5), (.int 62), iZ, iZ, iZ, iZ, iZ, iZ, iZ, iZ, iZ, iZ] iZ ∧ Fld Z h a1 s1 "coder" "B" iZ ∧ v = some (.ref a1)) := by
  refine CtrN.intro (L0 := #[vr a1, vi 62]) (plainFor_of_name pn1) O0 (own_entry rfl) ?_
  intro p e s m below meth c T0 hy hml hret hlk hnm W0
  refine o_aloadN W0 1 (hb hy d20_0) rfl rfl rfl <| o_aloadN W0 2 (hb hy d20_1) rfl rfl rfl ?_
  refine o_getF W0 (w87 hw) Via.refl z1 5 (hb hy d20_2) rfl ?_
  intro T1 W1
  refine o_iconst W1 (v := 1) 6 (hb hy d20_5) rfl rfl <| o_iadd W1 (v := 6) 7 (hb hy d20_6) (by decide) rfl ?_
  refine o_privateC W1 (w89 hw) (w90 hw) (w92 hw) (w91 hw) (w93 hw) (by decide) z2 (w51 hw) (rm88 l hw a1 a2 z0 x1 x2 x3 x4 x5 h0 W1.old z3 z4 z5) 0 0 0 (by decide) (by rw [hml]; rfl) (lenOf pd2 rfl) [] rfl rfl 10 (hb hy d20_7) rfl rfl rfl all0 tri ?_
  intro v2 T2 h2 lo2 W2 K2 q2
  obtain rfl := q2.2.2
  show Gl _ _ _ _ _ _ _ _ []
  refine o_aloadN W2 11 (hb hy d20_10) rfl rfl rfl ?_
  have c3 := (z5.keep K2 nin0)
  have c4 := (z2.keep K2)
  refine o_virtualC W2 (w123 hw) (w124 hw) (o_nf W2 rfl (w126 hw)) (w126 hw) (w125 hw) (by decide) c4 (w127 hw) (w51 hw) (rm21 l hw gCS a1 h2 W2.old SgCS NgCS c3) 0 0 0 (by decide) (by rw [hml]; rfl) (lenOf pd11 rfl) [] rfl rfl 14 (hb hy d20_11) rfl rfl rfl all0 tri ?_
  intro v5 T5 h5 lo5 W5 K5 q5
  obtain rfl := q5.2.2
  show Gl _ _ _ _ _ _ _ _ [(.int 1)]
  refine o_ifN W5 17 (hb hy d20_14) (XT.i0_eq_f (by decide)) rfl <| o_iloadN W5 18 (hb hy d20_17) rfl rfl ?_
  refine o_staticC W5 (w128 hw) (w129 hw) (w130 hw) (w131 hw) (by decide) (rm22 l hw  h5 W5.old ) 0 0 0 (by decide) (by rw [hml]; rfl) (lenOf pd12 rfl) [] rfl rfl 21 (hb hy d20_18) rfl rfl rfl all0 tri ?_
  intro v6 T6 h6 lo6 W6 K6 q6
  obtain rfl := q6.2.2
  show Gl _ _ _ _ _ _ _ _ [(.int 1)]
  refine o_ifN W6 24 (hb hy d20_21) (XT.i0_eq_f (by decide)) rfl <| o_aloadN W6 25 (hb hy d20_24) rfl rfl rfl ?_
  have c7 := (((z3.keep K2 nin0).keep K5 nin0).keep K6 nin0)
  refine o_getF W6 (w55 hw) Via.refl c7 28 (hb hy d20_25) rfl ?_
  intro T8 W8
  refine o_aloadN W8 29 (hb hy d20_28) rfl rfl rfl <| o_dup W8 30 (hb hy d20_29) rfl rfl ?_
  have c9 := (((z1.keep K2 nin0).keep K5 nin0).keep K6 nin0)
  refine o_getF W8 (w87 hw) Via.refl c9 33 (hb hy d20_30) rfl ?_
  intro T10 W10
  refine o_dupX1 W10 34 (hb hy d20_33) rfl rfl rfl <| o_iconst W10 (v := 1) 35 (hb hy d20_34) rfl rfl <| o_iadd W10 (v := 6) 36 (hb hy d20_35) (by decide) rfl ?_
  have c11 := ((c4.keep K5).keep K6)
  refine o_putF W10 (w87 hw) Via.refl c9 c11 (Or.inl (w88 hw)) (w42 hw) (ty := .int) (v' := (.int 6)) (by decide) rfl rfl z6 m0 tri 39 (hb hy d20_36) rfl ?_
  intro T12 h12 lo12 W12 R12
  have F12 := c9.same R12
  refine o_iloadN W12 40 (hb hy d20_39) rfl rfl <| o_i2b W12 (v := 62) 41 (hb hy d20_40) (by decide) rfl ?_
  have c13 := (c11.wr R12)
  have c14 := (((z4.keep K2 nin0).keep K5 nin0).keep K6 nin0)
  have c15 := ((((z4.keep K2 nin0).keep K5 nin0).keep K6 nin0).other R12 (Ne.symm (Exa.neArv c11 c14 (w42 hw))))
  refine o_stB W12 c15 (i := 5) (x' := (62 : Int32)) (by decide) (by decide) (by decide) (Nat.lt_of_sub_eq_succ rfl) (by decide) (vs' := [(.int x1), (.int x2), (.int x3), (.int x4), (.int x5), (.int 62), iZ, iZ, iZ, iZ, iZ, iZ, iZ, iZ, iZ, iZ]) rfl z7 (Or.inl (List.mem_of_getElem? (i := 1) rfl)) tri 42 (hb hy d20_41) rfl ?_
  intro T16 h16 lo16 W16 R16 V16
  refine o_goto W16 75 (hb hy d20_42) (by decide) rfl <| o_aloadN W16 76 (hb hy d20_75) rfl rfl rfl ?_
  have c17 := (c13.wr R16)
  have c18 := (F12.other R16 (Or.inl (Exa.neArv c13 c15 (w42 hw))))
  have c19 := ((c7.other R12 (Or.inr (slot_ne (Or.inl (w56 hw)) (Or.inl (w88 hw)) (by decide) (t := (.array .byte)) (t' := .int) (by decide) (by decide)))).other R16 (Or.inl (Exa.neArv c13 c15 (w42 hw))))
  have c20 := ((((c3.keep K5 nin0).keep K6 nin0).other R12 (Or.inr (slot_ne (Or.inl (w58 hw)) (Or.inl (w88 hw)) (by decide) (t := .byte) (t' := .int) (by decide) (by decide)))).other R16 (Or.inl (Exa.neArv c13 c15 (w42 hw))))
  exact o_retA W16 hlk (v := (.ref a1)) hret rfl rfl (hb hy d20_76) (by decide) (by decide) ⟨c18, c19, V16, c20, rfl⟩
theorem rm90 (l : Launch) {Z a0} (hw : HW Z a0) (gCS : Int32) (a1 a2 : Addr) (z0 : ClassId) (x1 x2 x3 x4 x5 : Int32) (h0 : Heap) (O0 : Old Z Z.heap.size h0) (z1 : Fld Z h0 a1 s1 "count" "I" (.int 5)) (z2 : Exa Z h0 a1 s2) (z3 : Fld Z h0 a1 s1 "value" "[B" (.ref a2)) (z4 : Arv Z h0 a2 z0 .byte 16 [(.int x1), (.int x2), (.int x3), (.int x4), (.int x5), iZ, iZ, iZ, iZ, iZ, iZ, iZ, iZ, iZ, iZ, iZ] iZ) (z5 : Fld Z h0 a1 s1 "coder" "B" iZ) (SgCS : Sta Z Z.heap s0 s3 "Z" (.int gCS)) (NgCS : ¬ (gCS = (0 : Int32))) (z6 : Z.heap.size ≤ a1) (z7 : Z.heap.size ≤ a2) :
    CtrN l Z mn16 jdk_67_method_14_code 2 (some (.object s2)) [] (⟨2, 0, 0, 27⟩ : Room) #[(.ref a1), (.int 62)] h0 [a2, a1] (fun v h => Fld Z h a1 s1 "count" "I" (.int 6) ∧ Fld Z h a1 s1 "value" "[B" (.ref a2) ∧ Arv Z h a2 z0 .byte 16 [(.int x1), (.int x2), (.int x3), (.int x4), (.int x5), (.int 62), iZ, iZ, iZ, iZ, iZ, iZ, iZ, iZ, iZ, iZ] iZ ∧ Fld Z h a1 s1 "coder" "B" iZ ∧ v = some (.ref a1)) := by
  refine CtrN.intro (L0 := #[vr a1, vi 62]) (plainFor_of_name pn2) O0 (own_entry rfl) ?_
  intro p e s m below meth c T0 hy hml hret hlk hnm W0
  refine o_aloadN W0 1 (hb hy d19_0) rfl rfl rfl <| o_iloadN W0 2 (hb hy d19_1) rfl rfl ?_
  refine o_superC W0 (by decide) (w119 hw) (w120 hw) (own_sameN (y := mn15) (y2 := mn7) (by decide) (w120 hw) rfl (w90 hw) (w92 hw)) (w74 hw) (w122 hw) (Ins.self z2) (w51 hw) (rm89 l hw gCS a1 a2 z0 x1 x2 x3 x4 x5 h0 W0.old z1 z2 z3 z4 z5 SgCS NgCS z6 z7) 0 0 0 (by decide) (by rw [hml]; rfl) (lenOf pd13 rfl) [] rfl rfl 5 (hb hy d19_2) rfl rfl rfl (allS ⟨z6, (Or.inl (List.mem_of_getElem? (i := 1) rfl))⟩ (allS ⟨z7, m0⟩ all0)) tri ?_
  intro v1 T1 h1 lo1 W1 K1 q1
  obtain ⟨P1_0, P1_1, P1_2, P1_3, rfl⟩ := q1.2.2
  show Gl _ _ _ _ _ _ _ _ [(.ref a1)]
  refine o_pop W1 6 (hb hy d19_5) rfl rfl <| o_aloadN W1 7 (hb hy d19_6) rfl rfl rfl ?_
  have c2 := (z2.keep K1)
  exact o_retA W1 hlk (v := (.ref a1)) hret rfl rfl (hb hy d19_7) (by decide) (by decide) ⟨P1_0, P1_1, P1_2, P1_3, rfl⟩
theorem rm91 (l : Launch) {Z a0} (hw : HW Z a0) (gCS : Int32) (a1 a2 a3 a4 : Addr) (z0 : ClassId) (a5 : Addr) (z1 : ClassId) (x1 x2 x3 : Int32) (h0 : Heap) (O0 : Old Z Z.heap.size h0) (z2 : Fld Z h0 a1 s4 "out" s5 (.ref a3)) (z3 : Exa Z h0 a3 s2) (SgCS : Sta Z Z.heap s0 s3 "Z" (.int gCS)) (NgCS : ¬ (gCS = (0 : Int32))) (z4 : Fld Z h0 a3 s1 "count" "I" iZ) (z5 : Fld Z h0 a3 s1 "value" "[B" (.ref a4)) (z6 : Arv Z h0 a4 z0 .byte 16 [iZ, iZ, iZ, iZ, iZ, iZ, iZ, iZ, iZ, iZ, iZ, iZ, iZ, iZ, iZ, iZ] iZ) (z7 : Fld Z h0 a3 s1 "coder" "B" iZ) (z8 : Z.heap.size ≤ a4) (z9 : Z.heap.size ≤ a3) (z10 : Exa Z h0 a2 s0) (z11 : Fld Z h0 a2 s0 "value" "[B" (.ref a5)) (z12 : Arv Z h0 a5 z1 .byte 3 [(.int (b8 x1)), (.int (b8 x2)), (.int (b8 x3))] iZ) (z13 : a4 ≠ a5) (z14 : Fld Z h0 a2 s0 "coder" "B" iZ) :
    CtrW l Z consts_1 mn17 prog_5_method_3_code 2 (some (.object s4)) [] (⟨5, 2, 12, 83⟩ : Room) #[(.ref a1), (.ref a2)] h0 [a4, a3] (fun v h => Fld Z h a3 s1 "count" "I" (.int 6) ∧ Fld Z h a3 s1 "value" "[B" (.ref a4) ∧ Arv Z h a4 z0 .byte 16 [(.int (b8 60)), (.int (b8 47)), (.int (b8 x1)), (.int (b8 x2)), (.int (b8 x3)), (.int 62), iZ, iZ, iZ, iZ, iZ, iZ, iZ, iZ, iZ, iZ] iZ ∧ Fld Z h a3 s1 "coder" "B" iZ ∧ v = some (.ref a1)) := by
  refine CtrW.intro (L0 := #[vr a1, vr a2]) (plainFor_of_name pn3) O0 (own_entry rfl) ?_
  intro p e s m below meth c T0 V0 hy hml hret hlk hnm W0
  refine o_aloadN W0 1 (hb hy d10_0) rfl rfl rfl ?_
  refine o_getF W0 (w59 hw) Via.refl z2 4 (hb hy d10_1) rfl ?_
  intro T1 W1
  refine o_ldcR W1 (w66 hw) (own_wS hw) (own_EL hw) (by simp [consts_1]) 6 (hb hy d10_4) rfl (n := 8) (by decide) (by decide) (cells' := 2) (slots' := 12) rfl rfl (by decide) (by decide) (vs := [(.int (b8 60)), (.int (b8 47))]) (z := (2 : Int32)) ⟨by decide, by decide⟩ (by decide) (by decide) ?_
  intro s2 T2 h2 V2 t2 k2 W2 E2 C2 X2 Fc2 Fv2 A2 ns2
  have c3 := (z3.ext E2)
  have c4 := (z4.ext E2)
  have c5 := (z5.ext E2)
  have c6 := (z6.ext E2)
  have c7 := (z7.ext E2)
  refine o_virtualC W2 (w67 hw) (w68 hw) (o_nf W2 rfl (w70 hw)) (w70 hw) (w69 hw) (by decide) c3 (w71 hw) (w43 hw) (rm13 l hw gCS a3 s2 t2 k2 a4 z0 h2 W2.old X2 Fv2 A2 SgCS NgCS Fc2 c4 c3 c5 c6 c7 z8 z9) 0 2 12 (by decide) (by rw [hml]; rfl) (lenOf pd10 rfl) [] rfl rfl 9 (hb hy d10_6) rfl rfl rfl (allS ⟨z9, (Or.inl (List.mem_of_getElem? (i := 1) rfl))⟩ (allS ⟨z8, m0⟩ all0)) (fun _ K => IW.keep K (sfS (Safe.exa W2.al c3 (by decide) (by decide)) (sfS (own_safeB W2.2.2.2.1 (n := 16) (by decide) (own_EL16 hw) c6) sf0)) W2.inv) ?_
  intro v8 T8 h8 lo8 W8 K8 q8
  obtain ⟨P8_0, P8_1, P8_2, P8_3, rfl⟩ := q8.2.2
  show Gl _ _ _ _ _ _ _ _ [(.ref a3)]
  refine o_aloadN W8 10 (hb hy d10_9) rfl rfl rfl ?_
  have c9 := ((z10.ext E2).keep K8)
  have c10 := (z10.ext E2)
  have c11 := (c3.keep K8)
  have c12 := ((z11.ext E2).keep K8 (ninS (Exa.ne c10 c3 (by decide)) (ninS (Exa.neArv c10 c6 (w2 hw)) nin0)))
  have c13 := (z12.ext E2)
  have c14 := ((z12.ext E2).keep K8 (ninS (Ne.symm (Exa.neArv c3 c13 (w42 hw))) (ninS (Ne.symm z13) nin0)))
  have c15 := ((z14.ext E2).keep K8 (ninS (Exa.ne c10 c3 (by decide)) (ninS (Exa.neArv c10 c6 (w2 hw)) nin0)))
  refine o_virtualC W8 (w67 hw) (w68 hw) (o_nf W8 rfl (w70 hw)) (w70 hw) (w69 hw) (by decide) c11 (w71 hw) (w43 hw) (rm87 l hw gCS a3 a2 a5 z1 x1 x2 x3 a4 z0 (b8 60) (b8 47) h8 W8.old c9 c12 c14 SgCS NgCS c15 P8_0 c11 P8_1 P8_2 P8_3 z8 z9) 0 2 12 (by decide) (by rw [hml]; rfl) (lenOf pd10 rfl) [] rfl rfl 13 (hb hy d10_10) rfl rfl rfl (allS ⟨z9, (Or.inl (List.mem_of_getElem? (i := 1) rfl))⟩ (allS ⟨z8, m0⟩ all0)) (fun _ K => IW.keep K (sfS (Safe.exa W8.al c11 (by decide) (by decide)) (sfS (own_safeB W8.2.2.2.1 (n := 16) (by decide) (own_EL16 hw) P8_2) sf0)) W8.inv) ?_
  intro v16 T16 h16 lo16 W16 K16 q16
  obtain ⟨P16_0, P16_1, P16_2, P16_3, rfl⟩ := q16.2.2
  show Gl _ _ _ _ _ _ _ _ [(.ref a3)]
  refine o_bipush W16 (v := 62) 15 (hb hy d10_13) (by decide) rfl ?_
  have c17 := (c11.keep K16)
  refine o_virtualC W16 (w114 hw) (w115 hw) (o_nf W16 rfl (w117 hw)) (w117 hw) (w116 hw) (by decide) c17 (w118 hw) (w43 hw) (rm90 l hw gCS a3 a4 z0 (b8 60) (b8 47) (b8 x1) (b8 x2) (b8 x3) h16 W16.old P16_0 c17 P16_1 P16_2 P16_3 SgCS NgCS z9 z8) 0 2 12 (by decide) (by rw [hml]; rfl) (lenOf pd14 rfl) [] rfl rfl 18 (hb hy d10_15) rfl rfl rfl (allS ⟨z8, m0⟩ (allS ⟨z9, (Or.inl (List.mem_of_getElem? (i := 1) rfl))⟩ all0)) (fun _ K => IW.keep K (sfS (own_safeB W16.2.2.2.1 (n := 16) (by decide) (own_EL16 hw) P16_2) (sfS (Safe.exa W16.al c17 (by decide) (by decide)) sf0)) W16.inv) ?_
  intro v18 T18 h18 lo18 W18 K18 q18
  obtain ⟨P18_0, P18_1, P18_2, P18_3, rfl⟩ := q18.2.2
  show Gl _ _ _ _ _ _ _ _ [(.ref a3)]
  refine o_pop W18 19 (hb hy d10_18) rfl rfl <| o_aloadN W18 20 (hb hy d10_19) rfl rfl rfl ?_
  have c19 := (c17.keep K18)
  exact o_retAW W18 (own_EL hw) hlk (v := (.ref a1)) hret rfl rfl (hb hy d10_20) (by decide) (by decide) ⟨P18_0, P18_1, P18_2, P18_3, rfl⟩
theorem rm92 (l : Launch) {Z a0} (hw : HW Z a0) (a1 : Addr) (h0 : Heap) (O0 : Old Z Z.heap.size h0) (z0 : Fld Z h0 a1 s1 "count" "I" (.int 6)) :
    CtrN l Z mn19 jdk_68_method_6_code 1 (some .int) [] (⟨0, 0, 0, 0⟩ : Room) #[(.ref a1)] h0 [] (fun v h => v = some (.int 6)) := by
  refine CtrN.intro (L0 := #[vr a1]) (plainFor_of_name pn1) O0 (own_entry rfl) ?_
  intro p e s m below meth c T0 hy hml hret hlk hnm W0
  refine o_aloadN W0 1 (hb hy d29_0) rfl rfl rfl ?_
  refine o_getF W0 (w87 hw) Via.refl z0 4 (hb hy d29_1) rfl ?_
  intro T1 W1
  exact o_retI W1 hlk hret (hb hy d29_4) (by decide) (by decide) rfl
theorem rm93 (l : Launch) {Z a0} (hw : HW Z a0) (a1 : Addr) (h0 : Heap) (O0 : Old Z Z.heap.size h0) (z0 : Fld Z h0 a1 s1 "count" "I" (.int 6)) (z1 : Exa Z h0 a1 s2) :
    CtrN l Z mn20 jdk_67_method_93_code 1 (some .int) [] (⟨1, 0, 0, 12⟩ : Room) #[(.ref a1)] h0 [] (fun v h => v = some (.int 6)) := by
  refine CtrN.intro (L0 := #[vr a1]) (plainFor_of_name pn2) O0 (own_entry rfl) ?_
  intro p e s m below meth c T0 hy hml hret hlk hnm W0
  refine o_aloadN W0 1 (hb hy d28_0) rfl rfl rfl ?_
  refine o_superC W0 (by decide) (w160 hw) (w156 hw) (own_sameN (y := mn19) (y2 := mn7) (by decide) (w156 hw) rfl (w90 hw) (w92 hw)) (w74 hw) (w161 hw) (Ins.self z1) (w51 hw) (rm92 l hw a1 h0 W0.old z0) 0 0 0 (by decide) (by rw [hml]; rfl) (lenOf pd5 rfl) [] rfl rfl 4 (hb hy d28_1) rfl rfl rfl all0 tri ?_
  intro v1 T1 h1 lo1 W1 K1 q1
  obtain rfl := q1.2.2
  show Gl _ _ _ _ _ _ _ _ [(.int 6)]
  exact o_retI W1 hlk hret (hb hy d28_4) (by decide) (by decide) rfl
theorem rm94 (l : Launch) {Z a0} (hw : HW Z a0)  (h0 : Heap) (O0 : Old Z Z.heap.size h0) :
    CtrN l Z mn21 jdk_65_method_131_code 2 none [] (⟨0, 0, 0, 0⟩ : Room) #[iZ, (.int 6)] h0 [] (fun v h => v = none) := by
  refine CtrN.intro (L0 := #[vi 0, vi 6]) (plainFor_of_name pn5) O0 (own_entry rfl) ?_
  intro p e s m below meth c T0 hy hml hret hlk hnm W0
  refine o_iloadN W0 1 (hb hy d32_0) rfl rfl <| o_iloadN W0 2 (hb hy d32_1) rfl rfl <| o_icmpY W0 37 (hb hy d32_2) (XT.ii_ge_t (by decide)) (by decide) rfl ?_
  exact o_ret0 W0 hlk hret (hb hy d32_37) (by decide) (by decide) rfl
theorem rm95 (l : Launch) {Z a0} (hw : HW Z a0)  (h0 : Heap) (O0 : Old Z Z.heap.size h0) :
    CtrN l Z mn22 jdk_29_method_69_code 2 (some .int) [] (⟨0, 0, 0, 0⟩ : Room) #[(.int 16), (.int 6)] h0 [] (fun v h => v = some (.int 6)) := by
  refine CtrN.intro (L0 := #[vi 16, vi 6]) (Jvm.Free.JP.mathPlain rfl (by decide +kernel)) O0 (own_entry rfl) ?_
  intro p e s m below meth c T0 hy hml hret hlk hnm W0
  refine o_iloadN W0 1 (hb hy d33_0) rfl rfl <| o_iloadN W0 2 (hb hy d33_1) rfl rfl <| o_icmpY W0 9 (hb hy d33_2) (XT.ii_gt_t (by decide)) (by decide) rfl <| o_iloadN W0 10 (hb hy d33_9) rfl rfl ?_
  exact o_retI W0 hlk hret (hb hy d33_10) (by decide) (by decide) rfl
theorem rm96 (l : Launch) {Z a0} (hw : HW Z a0) (a1 : Addr) (z0 : ClassId) (x1 x2 x3 x4 x5 : Int32) (h0 : Heap) (O0 : Old Z Z.heap.size h0) (z1 : Arv Z h0 a1 z0 .byte 16 [(.int x1), (.int x2), (.int x3), (.int x4), (.int x5), (.int 62), iZ, iZ, iZ, iZ, iZ, iZ, iZ, iZ, iZ, iZ] iZ) :
    CtrN l Z mn23 jdk_65_method_133_code 5 (some (.array .byte)) [] (⟨1, 1, 6, 27⟩ : Room) #[(.ref a1), iZ, (.int 6)] h0 [] (fun v h => ∃ r1 : Addr, ∃ r2 : ClassId, h0.size ≤ r1 ∧ Arv Z h r1 r2 .byte 6 [(.int x1), (.int x2), (.int x3), (.int x4), (.int x5), (.int 62)] iZ ∧ v = some (.ref r1)) := by
  refine CtrN.intro (L0 := #[vr a1, vi 0, vi 6, un, un]) (plainFor_of_name pn5) O0 (own_entry rfl) ?_
  intro p e s m below meth c T0 hy hml hret hlk hnm W0
  refine o_iloadN W0 1 (hb hy d31_0) rfl rfl <| o_iloadN W0 2 (hb hy d31_1) rfl rfl ?_
  refine o_staticC W0 (w170 hw) (w171 hw) (w165 hw) (w172 hw) (by decide) (rm94 l hw  h0 W0.old ) 0 0 0 (by decide) (by rw [hml]; rfl) (lenOf pd17 rfl) [] rfl rfl 5 (hb hy d31_2) rfl rfl rfl all0 tri ?_
  intro v1 T1 h1 lo1 W1 K1 q1
  obtain rfl := q1.2.2
  show Gl _ _ _ _ _ _ _ _ []
  refine o_iloadN W1 6 (hb hy d31_5) rfl rfl <| o_iloadN W1 7 (hb hy d31_6) rfl rfl <| o_isub W1 (v := 6) 8 (hb hy d31_7) (by decide) rfl <| o_istoreN W1 (L' := #[vr a1, vi 0, vi 6, vi 6, un]) 9 (hb hy d31_8) rfl rfl <| o_iloadN W1 10 (hb hy d31_9) rfl rfl ?_
  refine o_newP W1 (aty := .byte) (w15 hw) tri (by decide) (cap := 6) (by decide) (by decide) 12 (hb hy d31_10) rfl (cells' := 1) (slots' := 6) rfl rfl (by decide) (by decide) (vs := [iZ, iZ, iZ, iZ, iZ, iZ]) (dv := iZ) rfl rfl ?_
  intro b2 T2 h2 k2 W2 E2 ge2 gz2 gb2 V2
  refine o_astore W2 (L' := #[vr a1, vi 0, vi 6, vi 6, vr b2]) 14 (hb hy d31_12) rfl rfl rfl <| o_aloadN W2 15 (hb hy d31_14) rfl rfl rfl <| o_iloadN W2 16 (hb hy d31_15) rfl rfl <| o_aload W2 18 (hb hy d31_16) rfl rfl rfl <| o_iconst W2 (v := 0) 19 (hb hy d31_18) rfl rfl <| o_aloadN W2 20 (hb hy d31_19) rfl rfl rfl ?_
  have c3 := ((z1.keep K1 nin0).ext E2)
  refine o_len W2 c3 21 (hb hy d31_20) rfl <| o_iloadN W2 22 (hb hy d31_21) rfl rfl <| o_isub W2 (v := 16) 23 (hb hy d31_22) (by decide) rfl <| o_iloadN W2 24 (hb hy d31_23) rfl rfl ?_
  refine o_staticC W2 (w173 hw) (w174 hw) (w175 hw) (w176 hw) (by decide) (rm95 l hw  h2 W2.old ) 4 1 6 (by decide) (by rw [hml]; rfl) (lenOf pd18 rfl) [iZ, (.ref b2), iZ, (.ref a1)] rfl rfl 27 (hb hy d31_24) rfl rfl rfl all0 tri ?_
  intro v4 T4 h4 lo4 W4 K4 q4
  obtain rfl := q4.2.2
  show Gl _ _ _ _ _ _ _ _ [(.int 6), iZ, (.ref b2), iZ, (.ref a1)]
  have c5 := (c3.keep K4 nin0)
  have c6 := (V2.keep K4 nin0)
  refine o_copy W4 (w177 hw) (w113 hw) (w111 hw) (w112 hw) c5 c6 (us := [(.int x1), (.int x2), (.int x3), (.int x4), (.int x5), (.int 62)]) (Or.inl ⟨rfl, rfl⟩) (by decide) (by decide) (by decide) (by decide) (by decide) rfl (Nat.le_of_ble_eq_true rfl) (vd' := [(.int x1), (.int x2), (.int x3), (.int x4), (.int x5), (.int 62)]) rfl gz2 (Or.inr gb2) tri (by rw [hml]; rfl) 30 (hb hy d31_27) rfl (by decide) 0 (by exact Nat.le_of_eq rfl) (by decide) ?_
  intro T7 h7 lo7 W7 K7 V7
  refine o_aload W7 32 (hb hy d31_30) rfl rfl rfl ?_
  exact o_retA W7 hlk (v := (.ref b2)) hret rfl rfl (hb hy d31_32) (by decide) (by decide) ⟨b2, k2, gb2, V7, rfl⟩
theorem rm97 (l : Launch) {Z a0} (hw : HW Z a0) (a1 : Addr) (z0 : ClassId) (x1 x2 x3 x4 x5 : Int32) (h0 : Heap) (O0 : Old Z Z.heap.size h0) (z1 : Arv Z h0 a1 z0 .byte 16 [(.int x1), (.int x2), (.int x3), (.int x4), (.int x5), (.int 62), iZ, iZ, iZ, iZ, iZ, iZ, iZ, iZ, iZ, iZ] iZ) :
    CtrN l Z mn24 jdk_65_method_132_code 3 (some (.array .byte)) [] (⟨2, 1, 6, 43⟩ : Room) #[(.ref a1), iZ, (.int 6)] h0 [] (fun v h => ∃ r1 : Addr, ∃ r2 : ClassId, h0.size ≤ r1 ∧ Arv Z h r1 r2 .byte 6 [(.int x1), (.int x2), (.int x3), (.int x4), (.int x5), (.int 62)] iZ ∧ v = some (.ref r1)) := by
  refine CtrN.intro (L0 := #[vr a1, vi 0, vi 6]) (plainFor_of_name pn5) O0 (own_entry rfl) ?_
  intro p e s m below meth c T0 hy hml hret hlk hnm W0
  refine o_iloadN W0 1 (hb hy d30_0) rfl rfl <| o_ifN W0 4 (hb hy d30_1) (XT.i0_ne_f (by decide)) rfl <| o_iloadN W0 5 (hb hy d30_4) rfl rfl <| o_aloadN W0 6 (hb hy d30_5) rfl rfl rfl <| o_len W0 z1 7 (hb hy d30_6) rfl <| o_icmpN W0 10 (hb hy d30_7) (XT.ii_eq_f (by decide)) rfl ?_
  refine o_aloadN W0 11 (hb hy d30_10) rfl rfl rfl <| o_iloadN W0 12 (hb hy d30_11) rfl rfl <| o_iloadN W0 13 (hb hy d30_12) rfl rfl ?_
  refine o_staticC W0 (w167 hw) (w168 hw) (w165 hw) (w169 hw) (by decide) (rm96 l hw a1 z0 x1 x2 x3 x4 x5 h0 W0.old z1) 0 1 6 (by decide) (by rw [hml]; rfl) (lenOf pd19 rfl) [] rfl rfl 16 (hb hy d30_13) rfl rfl rfl all0 tri ?_
  intro v1 T1 h1 lo1 W1 K1 q1
  obtain ⟨r1_1, r2_1, P1_0, P1_1, rfl⟩ := q1.2.2
  show Gl _ _ _ _ _ _ _ _ [(.ref r1_1)]
  exact o_retA W1 hlk (v := (.ref r1_1)) hret rfl rfl (hb hy d30_16) (by decide) (by decide) ⟨r1_1, r2_1, (Nat.le_trans W0.keep.1 P1_0), P1_1, rfl⟩
theorem rm98 (l : Launch) {Z a0} (hw : HW Z a0) (gCS : Int32) (a1 a2 a3 : Addr) (z0 : ClassId) (x1 x2 x3 x4 x5 : Int32) (h0 : Heap) (O0 : Old Z Z.heap.size h0) (z1 : Exa Z h0 a2 s2) (z2 : Fld Z h0 a2 s1 "value" "[B" (.ref a3)) (z3 : Fld Z h0 a2 s1 "count" "I" (.int 6)) (SgCS : Sta Z Z.heap s0 s3 "Z" (.int gCS)) (NgCS : ¬ (gCS = (0 : Int32))) (z4 : Fld Z h0 a2 s1 "coder" "B" iZ) (z5 : Exa Z h0 a1 s0) (z6 : Fld Z h0 a1 s0 "coder" "B" iZ) (z7 : Z.heap.size ≤ a1) (z8 : Arv Z h0 a3 z0 .byte 16 [(.int x1), (.int x2), (.int x3), (.int x4), (.int x5), (.int 62), iZ, iZ, iZ, iZ, iZ, iZ, iZ, iZ, iZ, iZ] iZ) (z9 : Fld Z h0 a1 s0 "value" "[B" .null) :
    CtrN l Z mn25 jdk_42_method_150_code 5 none [] (⟨3, 1, 6, 58⟩ : Room) #[(.ref a1), (.ref a2), .null] h0 [a1] (fun v h => ∃ r1 : Addr, ∃ r2 : ClassId, h0.size ≤ r1 ∧ Fld Z h a1 s0 "coder" "B" iZ ∧ Fld Z h a1 s0 "value" "[B" (.ref r1) ∧ Arv Z h r1 r2 .byte 6 [(.int x1), (.int x2), (.int x3), (.int x4), (.int x5), (.int 62)] iZ ∧ v = none) := by
  refine CtrN.intro (L0 := #[vr a1, vr a2, .val .null, un, un]) (plainFor_of_name pn0) O0 (own_entry rfl) ?_
  intro p e s m below meth c T0 hy hml hret hlk hnm W0
  refine o_aloadN W0 1 (hb hy d26_0) rfl rfl rfl ?_
  refine o_initO W0 (w11 hw) (w12 hw) (w13 hw) (by rw [hml]; rfl) 4 (hb hy d26_1) rfl (by decide) 0 (by exact Nat.le_of_eq rfl) (by decide) ?_
  intro T1 W1
  refine o_aloadN W1 5 (hb hy d26_4) rfl rfl rfl ?_
  refine o_virtualC W1 (w149 hw) (w150 hw) (o_nf W1 rfl (w152 hw)) (w152 hw) (w151 hw) (by decide) z1 (w153 hw) (w51 hw) (rm26 l hw a2 a3 h0 W1.old z2) 0 0 0 (by decide) (by rw [hml]; rfl) (lenOf pd16 rfl) [] rfl rfl 8 (hb hy d26_5) rfl rfl rfl all0 tri ?_
  intro v2 T2 h2 lo2 W2 K2 q2
  obtain rfl := q2.2.2
  show Gl _ _ _ _ _ _ _ _ [(.ref a3)]
  refine o_astoreN W2 (L' := #[vr a1, vr a2, .val .null, vr a3, un]) 9 (hb hy d26_8) rfl rfl rfl <| o_aloadN W2 10 (hb hy d26_9) rfl rfl rfl ?_
  have c3 := (z3.keep K2 nin0)
  have c4 := (z1.keep K2)
  refine o_virtualC W2 (w154 hw) (w155 hw) (o_nf2 W2 (y2 := mn7) rfl (w90 hw) (w92 hw)) (w157 hw) (w158 hw) (by decide) c4 (w159 hw) (w43 hw) (rm93 l hw a2 h2 W2.old c3 c4) 0 0 0 (by decide) (by rw [hml]; rfl) (lenOf pd5 rfl) [] rfl rfl 13 (hb hy d26_10) rfl rfl rfl all0 tri ?_
  intro v5 T5 h5 lo5 W5 K5 q5
  obtain rfl := q5.2.2
  show Gl _ _ _ _ _ _ _ _ [(.int 6)]
  refine o_istore W5 (L' := #[vr a1, vr a2, .val .null, vr a3, vi 6]) 15 (hb hy d26_13) rfl rfl <| o_aloadN W5 16 (hb hy d26_15) rfl rfl rfl ?_
  have c6 := ((z4.keep K2 nin0).keep K5 nin0)
  have c7 := (c4.keep K5)
  refine o_virtualC W5 (w162 hw) (w124 hw) (o_nf W5 rfl (w126 hw)) (w126 hw) (w125 hw) (by decide) c7 (w127 hw) (w51 hw) (rm21 l hw gCS a2 h5 W5.old SgCS NgCS c6) 0 0 0 (by decide) (by rw [hml]; rfl) (lenOf pd11 rfl) [] rfl rfl 19 (hb hy d26_16) rfl rfl rfl all0 tri ?_
  intro v8 T8 h8 lo8 W8 K8 q8
  obtain rfl := q8.2.2
  show Gl _ _ _ _ _ _ _ _ [(.int 1)]
  refine o_ifN W8 22 (hb hy d26_19) (XT.i0_eq_f (by decide)) rfl <| o_aloadN W8 23 (hb hy d26_22) rfl rfl rfl <| o_iconst W8 (v := 0) 24 (hb hy d26_23) rfl rfl ?_
  have c9 := (((z5.keep K2).keep K5).keep K8)
  have c10 := (((z6.keep K2 nin0).keep K5 nin0).keep K8 nin0)
  refine o_putF W8 (w21 hw) Via.refl c10 c9 (Or.inr ⟨(w17 hw), rfl, hnm⟩) (w2 hw) (ty := .byte) (v' := iZ) (by decide) rfl (by decide) z7 m0 tri 27 (hb hy d26_24) rfl ?_
  intro T11 h11 lo11 W11 R11
  have F11 := c10.same R11
  refine o_aloadN W11 28 (hb hy d26_27) rfl rfl rfl <| o_aloadN W11 29 (hb hy d26_28) rfl rfl rfl <| o_iconst W11 (v := 0) 30 (hb hy d26_29) rfl rfl <| o_iload W11 32 (hb hy d26_30) rfl rfl ?_
  have c12 := (c9.wr R11)
  have c13 := (((z8.keep K2 nin0).keep K5 nin0).keep K8 nin0)
  have c14 := ((((z8.keep K2 nin0).keep K5 nin0).keep K8 nin0).other R11 (Ne.symm (Exa.neArv c9 c13 (w2 hw))))
  refine o_staticC W11 (w163 hw) (w164 hw) (w165 hw) (w166 hw) (by decide) (rm97 l hw a3 z0 x1 x2 x3 x4 x5 h11 W11.old c14) 1 1 6 (by decide) (by rw [hml]; rfl) (lenOf pd19 rfl) [(.ref a1)] rfl rfl 35 (hb hy d26_32) rfl rfl rfl all0 tri ?_
  intro v15 T15 h15 lo15 W15 K15 q15
  obtain ⟨r1_15, r2_15, P15_0, P15_1, rfl⟩ := q15.2.2
  show Gl _ _ _ _ _ _ _ _ [(.ref r1_15), (.ref a1)]
  have c16 := (c12.keep K15)
  have c17 := (((((z9.keep K2 nin0).keep K5 nin0).keep K8 nin0).other R11 (Or.inr (slot_ne (Or.inr (w16 hw)) (Or.inr (w17 hw)) (by decide) (t := (.array .byte)) (t' := .byte) (by decide) (by decide)))).keep K15 nin0)
  refine o_putF W15 (w20 hw) Via.refl c17 c16 (Or.inr ⟨(w16 hw), rfl, hnm⟩) (w2 hw) (ty := (.array .byte)) (v' := (.ref r1_15)) (by decide) rfl rfl z7 m0 tri 38 (hb hy d26_35) rfl ?_
  intro T18 h18 lo18 W18 R18
  have F18 := c17.same R18
  refine o_goto W18 97 (hb hy d26_38) (by decide) rfl ?_
  have c19 := ((F11.keep K15 nin0).other R18 (Or.inr (slot_ne (Or.inr (w17 hw)) (Or.inr (w16 hw)) (by decide) (t := .byte) (t' := (.array .byte)) (by decide) (by decide))))
  have c20 := (c16.wr R18)
  have c21 := (P15_1.other R18 (own_ne' c12.lt P15_0))
  exact o_ret0 W18 hlk hret (hb hy d26_97) (by decide) (by decide) ⟨r1_15, r2_15, (Nat.le_trans W11.keep.1 P15_0), c19, F18, c21, rfl⟩
theorem rm99 (l : Launch) {Z a0} (hw : HW Z a0) (gCS : Int32) (a1 a2 a3 : Addr) (z0 : ClassId) (x1 x2 x3 x4 x5 : Int32) (h0 : Heap) (O0 : Old Z Z.heap.size h0) (z1 : Exa Z h0 a2 s2) (z2 : Fld Z h0 a2 s1 "value" "[B" (.ref a3)) (z3 : Fld Z h0 a2 s1 "count" "I" (.int 6)) (SgCS : Sta Z Z.heap s0 s3 "Z" (.int gCS)) (NgCS : ¬ (gCS = (0 : Int32))) (z4 : Fld Z h0 a2 s1 "coder" "B" iZ) (z5 : Exa Z h0 a1 s0) (z6 : Fld Z h0 a1 s0 "coder" "B" iZ) (z7 : Arv Z h0 a3 z0 .byte 16 [(.int x1), (.int x2), (.int x3), (.int x4), (.int x5), (.int 62), iZ, iZ, iZ, iZ, iZ, iZ, iZ, iZ, iZ, iZ] iZ) (z8 : Fld Z h0 a1 s0 "value" "[B" .null) (z9 : Z.heap.size ≤ a1) :
    CtrN l Z mn26 jdk_42_method_53_code 2 none [] (⟨4, 1, 6, 74⟩ : Room) #[(.ref a1), (.ref a2)] h0 [a1] (fun v h => ∃ r1 : Addr, ∃ r2 : ClassId, h0.size ≤ r1 ∧ Fld Z h a1 s0 "coder" "B" iZ ∧ Fld Z h a1 s0 "value" "[B" (.ref r1) ∧ Arv Z h r1 r2 .byte 6 [(.int x1), (.int x2), (.int x3), (.int x4), (.int x5), (.int 62)] iZ ∧ v = none) := by
  refine CtrN.intro (L0 := #[vr a1, vr a2]) (plainFor_of_name pn0) O0 (own_entry rfl) ?_
  intro p e s m below meth c T0 hy hml hret hlk hnm W0
  refine o_aloadN W0 1 (hb hy d25_0) rfl rfl rfl <| o_aloadN W0 2 (hb hy d25_1) rfl rfl rfl ?_
  refine o_aconstNull W0 3 (hb hy d25_2) rfl ?_
  refine o_specialC W0 rfl (w146 hw) (w147 hw) (w148 hw) (by decide) (w3 hw) (rm98 l hw gCS a1 a2 a3 z0 x1 x2 x3 x4 x5 h0 W0.old z1 z2 z3 SgCS NgCS z4 z5 z6 z9 z7 z8) 0 1 6 (by decide) (by rw [hml]; rfl) (lenOf pd20 rfl) [] rfl rfl 6 (hb hy d25_3) rfl rfl rfl (allS ⟨z9, m0⟩ all0) tri ?_
  intro v1 T1 h1 lo1 W1 K1 q1
  obtain ⟨r1_1, r2_1, P1_0, P1_1, P1_2, P1_3, rfl⟩ := q1.2.2
  show Gl _ _ _ _ _ _ _ _ []
  have c2 := (z5.keep K1)
  exact o_ret0 W1 hlk hret (hb hy d25_6) (by decide) (by decide) ⟨r1_1, r2_1, (Nat.le_trans W0.keep.1 P1_0), P1_1, P1_2, P1_3, rfl⟩
theorem rm100 (l : Launch) {Z a0} (hw : HW Z a0) (gCS : Int32) (a1 a2 : Addr) (z0 : ClassId) (x1 x2 x3 x4 x5 : Int32) (h0 : Heap) (O0 : Old Z Z.heap.size h0) (z1 : Exa Z h0 a1 s2) (z2 : Fld Z h0 a1 s1 "value" "[B" (.ref a2)) (z3 : Fld Z h0 a1 s1 "count" "I" (.int 6)) (SgCS : Sta Z Z.heap s0 s3 "Z" (.int gCS)) (NgCS : ¬ (gCS = (0 : Int32))) (z4 : Fld Z h0 a1 s1 "coder" "B" iZ) (z5 : Arv Z h0 a2 z0 .byte 16 [(.int x1), (.int x2), (.int x3), (.int x4), (.int x5), (.int 62), iZ, iZ, iZ, iZ, iZ, iZ, iZ, iZ, iZ, iZ] iZ) :
    CtrN l Z mn27 jdk_67_method_42_code 1 (some (.object s0)) [] (⟨5, 2, 10, 88⟩ : Room) #[(.ref a1)] h0 [] (fun v h => ∃ r1 : Addr, ∃ r2 : Addr, ∃ r3 : ClassId, h0.size ≤ r1 ∧ h0.size ≤ r2 ∧ Exa Z h r1 s0 ∧ Fld Z h r1 s0 "value" "[B" (.ref r2) ∧ Fld Z h r1 s0 "coder" "B" iZ ∧ Arv Z h r2 r3 .byte 6 [(.int x1), (.int x2), (.int x3), (.int x4), (.int x5), (.int 62)] iZ ∧ v = some (.ref r1)) := by
  refine CtrN.intro (L0 := #[vr a1]) (plainFor_of_name pn2) O0 (own_entry rfl) ?_
  intro p e s m below meth c T0 hy hml hret hlk hnm W0
  refine o_new W0 (w142 hw) (w2 hw) (w3 hw) tri 3 (hb hy d24_0) rfl (cells' := 1) (slots' := 4) rfl rfl (by decide) (by decide) ?_
  intro b1 T1 h1 W1 E1 ge1 gz1 gb1 A1 D1
  have Fb1_value : Fld Z h1 b1 s0 "value" "[B" .null := D1 (Or.inr (w16 hw)) (ty := (.array .byte)) (by decide)
  have Fb1_coder : Fld Z h1 b1 s0 "coder" "B" iZ := D1 (Or.inr (w17 hw)) (ty := .byte) (by decide)
  refine o_dup W1 4 (hb hy d24_3) rfl rfl <| o_aloadN W1 5 (hb hy d24_4) rfl rfl rfl ?_
  have c2 := (z1.ext E1)
  have c3 := (z2.ext E1)
  have c4 := (z3.ext E1)
  have c5 := (z4.ext E1)
  have c6 := (z5.ext E1)
  refine o_specialC W1 rfl (w143 hw) (w144 hw) (w145 hw) (by decide) (w3 hw) (rm99 l hw gCS b1 a1 a2 z0 x1 x2 x3 x4 x5 h1 W1.old c2 c3 c4 SgCS NgCS c5 A1 Fb1_coder c6 Fb1_value gz1) 1 2 10 (by decide) (by rw [hml]; rfl) (lenOf pd21 rfl) [(.ref b1)] rfl rfl 8 (hb hy d24_5) rfl rfl rfl (allS ⟨gz1, (Or.inr gb1)⟩ all0) tri ?_
  intro v7 T7 h7 lo7 W7 K7 q7
  obtain ⟨r1_7, r2_7, P7_0, P7_1, P7_2, P7_3, rfl⟩ := q7.2.2
  show Gl _ _ _ _ _ _ _ _ [(.ref b1)]
  have c8 := (A1.keep K7)
  exact o_retA W7 hlk (v := (.ref b1)) hret rfl rfl (hb hy d24_8) (by decide) (by decide) ⟨b1, r1_7, r2_7, gb1, (Nat.le_trans W1.keep.1 P7_0), c8, P7_2, P7_1, P7_3, rfl⟩
theorem rm101 (l : Launch) {Z a0} (hw : HW Z a0) (gCS : Int32) (a1 a2 a3 : Addr) (z0 : ClassId) (x1 x2 x3 x4 x5 : Int32) (h0 : Heap) (O0 : Old Z Z.heap.size h0) (z1 : Fld Z h0 a1 s4 "out" s5 (.ref a2)) (z2 : Exa Z h0 a2 s2) (z3 : Fld Z h0 a2 s1 "value" "[B" (.ref a3)) (z4 : Fld Z h0 a2 s1 "count" "I" (.int 6)) (SgCS : Sta Z Z.heap s0 s3 "Z" (.int gCS)) (NgCS : ¬ (gCS = (0 : Int32))) (z5 : Fld Z h0 a2 s1 "coder" "B" iZ) (z6 : Arv Z h0 a3 z0 .byte 16 [(.int x1), (.int x2), (.int x3), (.int x4), (.int x5), (.int 62), iZ, iZ, iZ, iZ, iZ, iZ, iZ, iZ, iZ, iZ] iZ) :
    CtrN l Z mn28 prog_5_method_8_code 1 (some (.object s0)) [] (⟨6, 2, 10, 100⟩ : Room) #[(.ref a1)] h0 [] (fun v h => ∃ r1 : Addr, ∃ r2 : Addr, ∃ r3 : ClassId, h0.size ≤ r1 ∧ h0.size ≤ r2 ∧ Exa Z h r1 s0 ∧ Fld Z h r1 s0 "value" "[B" (.ref r2) ∧ Fld Z h r1 s0 "coder" "B" iZ ∧ Arv Z h r2 r3 .byte 6 [(.int x1), (.int x2), (.int x3), (.int x4), (.int x5), (.int 62)] iZ ∧ v = some (.ref r1)) := by
  refine CtrN.intro (L0 := #[vr a1]) (plainFor_of_name pn3) O0 (own_entry rfl) ?_
  intro p e s m below meth c T0 hy hml hret hlk hnm W0
  refine o_aloadN W0 1 (hb hy d23_0) rfl rfl rfl ?_
  refine o_getF W0 (w59 hw) Via.refl z1 4 (hb hy d23_1) rfl ?_
  intro T1 W1
  refine o_virtualC W1 (w137 hw) (w138 hw) (o_nf W1 rfl (w140 hw)) (w140 hw) (w139 hw) (by decide) z2 (w141 hw) (w43 hw) (rm100 l hw gCS a2 a3 z0 x1 x2 x3 x4 x5 h0 W1.old z2 z3 z4 SgCS NgCS z5 z6) 0 2 10 (by decide) (by rw [hml]; rfl) (lenOf pd22 rfl) [] rfl rfl 7 (hb hy d23_4) rfl rfl rfl all0 tri ?_
  intro v2 T2 h2 lo2 W2 K2 q2
  obtain ⟨r1_2, r2_2, r3_2, P2_0, P2_1, P2_2, P2_3, P2_4, P2_5, rfl⟩ := q2.2.2
  show Gl _ _ _ _ _ _ _ _ [(.ref r1_2)]
  exact o_retA W2 hlk (v := (.ref r1_2)) hret rfl rfl (hb hy d23_7) (by decide) (by decide) ⟨r1_2, r2_2, r3_2, (Nat.le_trans W1.keep.1 P2_0), (Nat.le_trans W1.keep.1 P2_1), P2_2, P2_3, P2_4, P2_5, rfl⟩
theorem rm102 (l : Launch) {Z a0} (hw : HW Z a0) (a1 a2 : Addr) (z0 : ClassId) (x1 x2 x3 : Int32) (z1 : ClassId) (x4 x5 x6 x7 x8 : Int32) (h0 : Heap) (O0 : Old Z Z.heap.size h0) (z2 : Arv Z h0 a1 z0 .byte 6 [(.int (b8 60)), (.int (b8 47)), (.int (b8 x1)), (.int (b8 x2)), (.int (b8 x3)), (.int (b8 62))] iZ) (z3 : Arv Z h0 a2 z1 .byte 6 [(.int x4), (.int x5), (.int x6), (.int x7), (.int x8), (.int 62)] iZ) (hc1 : (b8 60) = x4) (hc2 : (b8 47) = x5) (hc3 : (b8 x1) = x6) (hc4 : (b8 x2) = x7) (hc5 : (b8 x3) = x8) :
    CtrN l Z mn29 jdk_43_method_13_code 3 (some .boolean) [] (⟨0, 0, 0, 0⟩ : Room) #[(.ref a1), (.ref a2)] h0 [] (fun v h => v = some (.int 1)) := by
  refine CtrN.intro (L0 := #[vr a1, vr a2, un]) (plainFor_of_name pn4) O0 (own_entry rfl) ?_
  intro p e s m below meth c T0 hy hml hret hlk hnm W0
  refine o_aloadN W0 1 (hb hy d35_0) rfl rfl rfl <| o_len W0 z2 2 (hb hy d35_1) rfl <| o_aloadN W0 3 (hb hy d35_2) rfl rfl rfl <| o_len W0 z3 4 (hb hy d35_3) rfl <| o_icmpN W0 7 (hb hy d35_4) (XT.ii_ne_f (by decide)) rfl <| o_iconst W0 (v := 0) 8 (hb hy d35_7) rfl rfl ?_
  refine o_istoreN W0 (L' := #[vr a1, vr a2, vi 0]) 9 (hb hy d35_8) rfl rfl <| o_iloadN W0 10 (hb hy d35_9) rfl rfl <| o_aloadN W0 11 (hb hy d35_10) rfl rfl rfl <| o_len W0 z2 12 (hb hy d35_11) rfl <| o_icmpN W0 15 (hb hy d35_12) (XT.ii_ge_f (by decide)) rfl <| o_aloadN W0 16 (hb hy d35_15) rfl rfl rfl ?_
  refine o_iloadN W0 17 (hb hy d35_16) rfl rfl <| o_baload W0 z2 (x := (b8 60)) (i := 0) (by decide) (by decide) (by decide) rfl 18 (hb hy d35_17) rfl <| o_aloadN W0 19 (hb hy d35_18) rfl rfl rfl <| o_iloadN W0 20 (hb hy d35_19) rfl rfl <| o_baload W0 z3 (x := x4) (i := 0) (by decide) (by decide) (by decide) rfl 21 (hb hy d35_20) rfl <| o_icmpY W0 26 (hb hy d35_21) (XT.ii_eq_t hc1) (by decide) rfl ?_
  refine o_iinc W0 (v := 1) (L' := #[vr a1, vr a2, vi 1]) 29 (hb hy d35_26) rfl (by decide) rfl rfl <| o_goto W0 9 (hb hy d35_29) (by decide) rfl <| o_iloadN W0 10 (hb hy d35_9) rfl rfl <| o_aloadN W0 11 (hb hy d35_10) rfl rfl rfl <| o_len W0 z2 12 (hb hy d35_11) rfl <| o_icmpN W0 15 (hb hy d35_12) (XT.ii_ge_f (by decide)) rfl ?_
  refine o_aloadN W0 16 (hb hy d35_15) rfl rfl rfl <| o_iloadN W0 17 (hb hy d35_16) rfl rfl <| o_baload W0 z2 (x := (b8 47)) (i := 1) (by decide) (by decide) (by decide) rfl 18 (hb hy d35_17) rfl <| o_aloadN W0 19 (hb hy d35_18) rfl rfl rfl <| o_iloadN W0 20 (hb hy d35_19) rfl rfl <| o_baload W0 z3 (x := x5) (i := 1) (by decide) (by decide) (by decide) rfl 21 (hb hy d35_20) rfl ?_
  refine o_icmpY W0 26 (hb hy d35_21) (XT.ii_eq_t hc2) (by decide) rfl <| o_iinc W0 (v := 2) (L' := #[vr a1, vr a2, vi 2]) 29 (hb hy d35_26) rfl (by decide) rfl rfl <| o_goto W0 9 (hb hy d35_29) (by decide) rfl <| o_iloadN W0 10 (hb hy d35_9) rfl rfl <| o_aloadN W0 11 (hb hy d35_10) rfl rfl rfl <| o_len W0 z2 12 (hb hy d35_11) rfl ?_
  refine o_icmpN W0 15 (hb hy d35_12) (XT.ii_ge_f (by decide)) rfl <| o_aloadN W0 16 (hb hy d35_15) rfl rfl rfl <| o_iloadN W0 17 (hb hy d35_16) rfl rfl <| o_baload W0 z2 (x := (b8 x1)) (i := 2) (by decide) (by decide) (by decide) rfl 18 (hb hy d35_17) rfl <| o_aloadN W0 19 (hb hy d35_18) rfl rfl rfl <| o_iloadN W0 20 (hb hy d35_19) rfl rfl ?_
  refine o_baload W0 z3 (x := x6) (i := 2) (by decide) (by decide) (by decide) rfl 21 (hb hy d35_20) rfl <| o_icmpY W0 26 (hb hy d35_21) (XT.ii_eq_t hc3) (by decide) rfl <| o_iinc W0 (v := 3) (L' := #[vr a1, vr a2, vi 3]) 29 (hb hy d35_26) rfl (by decide) rfl rfl <| o_goto W0 9 (hb hy d35_29) (by decide) rfl <| o_iloadN W0 10 (hb hy d35_9) rfl rfl <| o_aloadN W0 11 (hb hy d35_10) rfl rfl rfl ?_
  refine o_len W0 z2 12 (hb hy d35_11) rfl <| o_icmpN W0 15 (hb hy d35_12) (XT.ii_ge_f (by decide)) rfl <| o_aloadN W0 16 (hb hy d35_15) rfl rfl rfl <| o_iloadN W0 17 (hb hy d35_16) rfl rfl <| o_baload W0 z2 (x := (b8 x2)) (i := 3) (by decide) (by decide) (by decide) rfl 18 (hb hy d35_17) rfl <| o_aloadN W0 19 (hb hy d35_18) rfl rfl rfl ?_
  refine o_iloadN W0 20 (hb hy d35_19) rfl rfl <| o_baload W0 z3 (x := x7) (i := 3) (by decide) (by decide) (by decide) rfl 21 (hb hy d35_20) rfl <| o_icmpY W0 26 (hb hy d35_21) (XT.ii_eq_t hc4) (by decide) rfl <| o_iinc W0 (v := 4) (L' := #[vr a1, vr a2, vi 4]) 29 (hb hy d35_26) rfl (by decide) rfl rfl <| o_goto W0 9 (hb hy d35_29) (by decide) rfl <| o_iloadN W0 10 (hb hy d35_9) rfl rfl ?_
  refine o_aloadN W0 11 (hb hy d35_10) rfl rfl rfl <| o_len W0 z2 12 (hb hy d35_11) rfl <| o_icmpN W0 15 (hb hy d35_12) (XT.ii_ge_f (by decide)) rfl <| o_aloadN W0 16 (hb hy d35_15) rfl rfl rfl <| o_iloadN W0 17 (hb hy d35_16) rfl rfl <| o_baload W0 z2 (x := (b8 x3)) (i := 4) (by decide) (by decide) (by decide) rfl 18 (hb hy d35_17) rfl ?_
  refine o_aloadN W0 19 (hb hy d35_18) rfl rfl rfl <| o_iloadN W0 20 (hb hy d35_19) rfl rfl <| o_baload W0 z3 (x := x8) (i := 4) (by decide) (by decide) (by decide) rfl 21 (hb hy d35_20) rfl <| o_icmpY W0 26 (hb hy d35_21) (XT.ii_eq_t hc5) (by decide) rfl <| o_iinc W0 (v := 5) (L' := #[vr a1, vr a2, vi 5]) 29 (hb hy d35_26) rfl (by decide) rfl rfl <| o_goto W0 9 (hb hy d35_29) (by decide) rfl ?_
  refine o_iloadN W0 10 (hb hy d35_9) rfl rfl <| o_aloadN W0 11 (hb hy d35_10) rfl rfl rfl <| o_len W0 z2 12 (hb hy d35_11) rfl <| o_icmpN W0 15 (hb hy d35_12) (XT.ii_ge_f (by decide)) rfl <| o_aloadN W0 16 (hb hy d35_15) rfl rfl rfl <| o_iloadN W0 17 (hb hy d35_16) rfl rfl ?_
  refine o_baload W0 z2 (x := (b8 62)) (i := 5) (by decide) (by decide) (by decide) rfl 18 (hb hy d35_17) rfl <| o_aloadN W0 19 (hb hy d35_18) rfl rfl rfl <| o_iloadN W0 20 (hb hy d35_19) rfl rfl <| o_baload W0 z3 (x := (62 : Int32)) (i := 5) (by decide) (by decide) (by decide) rfl 21 (hb hy d35_20) rfl <| o_icmpY W0 26 (hb hy d35_21) (XT.ii_eq_t (by decide)) (by decide) rfl <| o_iinc W0 (v := 6) (L' := #[vr a1, vr a2, vi 6]) 29 (hb hy d35_26) rfl (by decide) rfl rfl ?_
  refine o_goto W0 9 (hb hy d35_29) (by decide) rfl <| o_iloadN W0 10 (hb hy d35_9) rfl rfl <| o_aloadN W0 11 (hb hy d35_10) rfl rfl rfl <| o_len W0 z2 12 (hb hy d35_11) rfl <| o_icmpY W0 32 (hb hy d35_12) (XT.ii_ge_t (by decide)) (by decide) rfl <| o_iconst W0 (v := 1) 33 (hb hy d35_32) rfl rfl ?_
  exact o_retN W0 hlk (t := .boolean) hret (by simp) (z' := (1 : Int32)) (by decide) (hb hy d35_33) (by decide) (by decide) rfl
theorem rm103 (l : Launch) {Z a0} (hw : HW Z a0) (gCS : Int32) (a1 a2 a3 a4 : Addr) (z0 : ClassId) (x1 x2 x3 : Int32) (z1 : ClassId) (x4 x5 x6 x7 x8 : Int32) (h0 : Heap) (O0 : Old Z Z.heap.size h0) (z2 : Exa Z h0 a1 s0) (z3 : Exa Z h0 a2 s0) (z4 : a1 ≠ a2) (SgCS : Sta Z Z.heap s0 s3 "Z" (.int gCS)) (NgCS : ¬ (gCS = (0 : Int32))) (z5 : Fld Z h0 a1 s0 "coder" "B" iZ) (z6 : Fld Z h0 a2 s0 "coder" "B" iZ) (z7 : Fld Z h0 a1 s0 "value" "[B" (.ref a3)) (z8 : Fld Z h0 a2 s0 "value" "[B" (.ref a4)) (z9 : Arv Z h0 a3 z0 .byte 6 [(.int (b8 60)), (.int (b8 47)), (.int (b8 x1)), (.int (b8 x2)), (.int (b8 x3)), (.int (b8 62))] iZ) (z10 : Arv Z h0 a4 z1 .byte 6 [(.int x4), (.int x5), (.int x6), (.int x7), (.int x8), (.int 62)] iZ) (hc8 : (b8 60) = x4) (hc9 : (b8 47) = x5) (hc10 : (b8 x1) = x6) (hc11 : (b8 x2) = x7) (hc12 : (b8 x3) = x8) :
    CtrN l Z mn30 jdk_42_method_66_code 3 (some .boolean) [] (⟨1, 0, 0, 14⟩ : Room) #[(.ref a1), (.ref a2)] h0 [] (fun v h => v = some (.int 1)) := by
  refine CtrN.intro (L0 := #[vr a1, vr a2, un]) (plainFor_of_name pn0) O0 (own_entry rfl) ?_
  intro p e s m below meth c T0 hy hml hret hlk hnm W0
  refine o_aloadN W0 1 (hb hy d34_0) rfl rfl rfl <| o_aloadN W0 2 (hb hy d34_1) rfl rfl rfl ?_
  refine o_acmpY W0 7 (hb hy d34_2) rfl rfl (XT.aa_ne_t (fun q => z4 (Value.ref.inj q))) (by decide) rfl ?_
  refine o_aloadN W0 8 (hb hy d34_7) rfl rfl rfl ?_
  refine o_instY W0 (w183 hw) (Ins.self z3) 11 (hb hy d34_8) rfl ?_
  intro T1 W1
  refine o_ifN W1 14 (hb hy d34_11) (XT.i0_eq_f (by decide)) rfl <| o_aloadN W1 15 (hb hy d34_14) rfl rfl rfl ?_
  refine o_cast W1 (w183 hw) (Ins.self z3) 18 (hb hy d34_15) rfl ?_
  intro T2 W2
  refine o_astoreN W2 (L' := #[vr a1, vr a2, vr a2]) 19 (hb hy d34_18) rfl rfl rfl ?_
  refine o_getS W2 (w22 hw) Via.refl (SgCS.ext W2.ox) 22 (hb hy d34_19) rfl ?_
  intro T3 W3
  refine o_ifN W3 25 (hb hy d34_22) (XT.i0_eq_f NgCS) rfl <| o_aloadN W3 26 (hb hy d34_25) rfl rfl rfl ?_
  refine o_getF W3 (w21 hw) Via.refl z5 29 (hb hy d34_26) rfl ?_
  intro T4 W4
  refine o_aloadN W4 30 (hb hy d34_29) rfl rfl rfl ?_
  refine o_getF W4 (w21 hw) Via.refl z6 33 (hb hy d34_30) rfl ?_
  intro T5 W5
  refine o_icmpN W5 36 (hb hy d34_33) (XT.ii_ne_f (by decide)) rfl <| o_aloadN W5 37 (hb hy d34_36) rfl rfl rfl ?_
  refine o_getF W5 (w20 hw) Via.refl z7 40 (hb hy d34_37) rfl ?_
  intro T6 W6
  refine o_aloadN W6 41 (hb hy d34_40) rfl rfl rfl ?_
  refine o_getF W6 (w20 hw) Via.refl z8 44 (hb hy d34_41) rfl ?_
  intro T7 W7
  refine o_staticC W7 (w184 hw) (w185 hw) (w130 hw) (w186 hw) (by decide) (rm102 l hw a3 a4 z0 x1 x2 x3 z1 x4 x5 x6 x7 x8 h0 W7.old z9 z10 hc8 hc9 hc10 hc11 hc12) 0 0 0 (by decide) (by rw [hml]; rfl) (lenOf pd23 rfl) [] rfl rfl 47 (hb hy d34_44) rfl rfl rfl all0 tri ?_
  intro v13 T13 h13 lo13 W13 K13 q13
  obtain rfl := q13.2.2
  show Gl _ _ _ _ _ _ _ _ [(.int 1)]
  refine o_ifN W13 50 (hb hy d34_47) (XT.i0_eq_f (by decide)) rfl <| o_iconst W13 (v := 1) 51 (hb hy d34_50) rfl rfl <| o_goto W13 55 (hb hy d34_51) (by decide) rfl ?_
  exact o_retN W13 hlk (t := .boolean) hret (by simp) (z' := (1 : Int32)) (by decide) (hb hy d34_55) (by decide) (by decide) rfl
theorem rm104 (l : Launch) {Z a0} (hw : HW Z a0) (x1 : Int32) (h0 : Heap) (O0 : Old Z Z.heap.size h0) (hu1 : own_b x1) :
    CtrN l Z mn14 jdk_43_method_3_code 1 (some .boolean) [] (⟨0, 0, 0, 0⟩ : Room) #[(.int x1)] h0 [] (fun v h => v = some (.int 1)) := by
  refine CtrN.intro (L0 := #[vi x1]) (plainFor_of_name pn4) O0 (own_entry rfl) ?_
  intro p e s m below meth c T0 hy hml hret hlk hnm W0
  refine o_iloadN W0 1 (hb hy d22_0) rfl rfl <| o_sipush W0 (v := 255) 4 (hb hy d22_1) (by decide) rfl <| o_icmpN W0 7 (hb hy d22_4) (XT.ii_gt_f hu1.2) rfl <| o_iconst W0 (v := 1) 8 (hb hy d22_7) rfl rfl <| o_goto W0 12 (hb hy d22_8) (by decide) rfl ?_
  exact o_retN W0 hlk (t := .boolean) hret (by simp) (z' := (1 : Int32)) (by decide) (hb hy d22_12) (by decide) (by decide) rfl
theorem rm105 (l : Launch) {Z a0} (hw : HW Z a0) (x1 : Int32) (h0 : Heap) (O0 : Old Z Z.heap.size h0) :
    CtrN l Z mn31 jdk_43_method_46_code 1 (some (.array .byte)) [] (⟨0, 1, 1, 0⟩ : Room) #[(.int x1)] h0 [] (fun v h => ∃ r1 : Addr, ∃ r2 : ClassId, h0.size ≤ r1 ∧ Arv Z h r1 r2 .byte 1 [(.int (x1.toInt8.toInt32))] iZ ∧ v = some (.ref r1)) := by
  refine CtrN.intro (L0 := #[vi x1]) (plainFor_of_name pn4) O0 (own_entry rfl) ?_
  intro p e s m below meth c T0 hy hml hret hlk hnm W0
  refine o_iconst W0 (v := 1) 1 (hb hy d37_0) rfl rfl ?_
  refine o_newP W0 (aty := .byte) (w15 hw) tri (by decide) (cap := 1) (by decide) (by decide) 3 (hb hy d37_1) rfl (cells' := 1) (slots' := 1) rfl rfl (by decide) (by decide) (vs := [iZ]) (dv := iZ) rfl rfl ?_
  intro b1 T1 h1 k1 W1 E1 ge1 gz1 gb1 V1
  refine o_dup W1 4 (hb hy d37_3) rfl rfl <| o_iconst W1 (v := 0) 5 (hb hy d37_4) rfl rfl <| o_iloadN W1 6 (hb hy d37_5) rfl rfl <| o_i2b W1 (v := (x1.toInt8.toInt32)) 7 (hb hy d37_6) rfl rfl ?_
  refine o_stB W1 V1 (i := 0) (x' := (x1.toInt8.toInt32)) (by decide) (by decide) (by decide) (Nat.lt_of_sub_eq_succ rfl) (own_b8 _) (vs' := [(.int (x1.toInt8.toInt32))]) rfl gz1 (Or.inr gb1) tri 8 (hb hy d37_7) rfl ?_
  intro T2 h2 lo2 W2 R2 V2
  exact o_retA W2 hlk (v := (.ref b1)) hret rfl rfl (hb hy d37_8) (by decide) (by decide) ⟨b1, k1, gb1, V2, rfl⟩
theorem rm106 (l : Launch) {Z a0} (hw : HW Z a0) (a1 a2 : Addr) (h0 : Heap) (O0 : Old Z Z.heap.size h0) (z0 : Exa Z h0 a1 s0) (z1 : Fld Z h0 a1 s0 "value" "[B" .null) (z2 : Z.heap.size ≤ a1) (z3 : Fld Z h0 a1 s0 "coder" "B" iZ) :
    CtrN l Z mn32 jdk_42_method_151_code 3 none [] (⟨1, 0, 0, 12⟩ : Room) #[(.ref a1), (.ref a2), iZ] h0 [a1] (fun v h => Fld Z h a1 s0 "value" "[B" (.ref a2) ∧ Fld Z h a1 s0 "coder" "B" iZ ∧ v = none) := by
  refine CtrN.intro (L0 := #[vr a1, vr a2, vi 0]) (plainFor_of_name pn0) O0 (own_entry rfl) ?_
  intro p e s m below meth c T0 hy hml hret hlk hnm W0
  refine o_aloadN W0 1 (hb hy d38_0) rfl rfl rfl ?_
  refine o_initO W0 (w11 hw) (w12 hw) (w13 hw) (by rw [hml]; rfl) 4 (hb hy d38_1) rfl (by decide) 0 (by exact Nat.le_of_eq rfl) (by decide) ?_
  intro T1 W1
  refine o_aloadN W1 5 (hb hy d38_4) rfl rfl rfl <| o_aloadN W1 6 (hb hy d38_5) rfl rfl rfl ?_
  refine o_putF W1 (w20 hw) Via.refl z1 z0 (Or.inr ⟨(w16 hw), rfl, hnm⟩) (w2 hw) (ty := (.array .byte)) (v' := (.ref a2)) (by decide) rfl rfl z2 m0 tri 9 (hb hy d38_6) rfl ?_
  intro T2 h2 lo2 W2 R2
  have F2 := z1.same R2
  refine o_aloadN W2 10 (hb hy d38_9) rfl rfl rfl <| o_iloadN W2 11 (hb hy d38_10) rfl rfl ?_
  have c3 := (z0.wr R2)
  have c4 := (z3.other R2 (Or.inr (slot_ne (Or.inr (w17 hw)) (Or.inr (w16 hw)) (by decide) (t := .byte) (t' := (.array .byte)) (by decide) (by decide))))
  refine o_putF W2 (w21 hw) Via.refl c4 c3 (Or.inr ⟨(w17 hw), rfl, hnm⟩) (w2 hw) (ty := .byte) (v' := iZ) (by decide) rfl (by decide) z2 m0 tri 14 (hb hy d38_11) rfl ?_
  intro T5 h5 lo5 W5 R5
  have F5 := c4.same R5
  have c6 := (F2.other R5 (Or.inr (slot_ne (Or.inr (w16 hw)) (Or.inr (w17 hw)) (by decide) (t := (.array .byte)) (t' := .byte) (by decide) (by decide))))
  have c7 := (c3.wr R5)
  exact o_ret0 W5 hlk hret (hb hy d38_14) (by decide) (by decide) ⟨c6, F5, rfl⟩
theorem rm107 (l : Launch) {Z a0} (hw : HW Z a0) (gCS x1 : Int32) (h0 : Heap) (O0 : Old Z Z.heap.size h0) (SgCS : Sta Z Z.heap s0 s3 "Z" (.int gCS)) (NgCS : ¬ (gCS = (0 : Int32))) (hu2 : own_b x1) :
    CtrN l Z mn33 jdk_42_method_139_code 1 (some (.object s0)) [] (⟨2, 2, 5, 27⟩ : Room) #[(.int x1)] h0 [] (fun v h => ∃ r1 : Addr, ∃ r2 : Addr, ∃ r3 : ClassId, h0.size ≤ r1 ∧ h0.size ≤ r2 ∧ Exa Z h r1 s0 ∧ Fld Z h r1 s0 "value" "[B" (.ref r2) ∧ Fld Z h r1 s0 "coder" "B" iZ ∧ Arv Z h r2 r3 .byte 1 [(.int (x1.toInt8.toInt32))] iZ ∧ v = some (.ref r1)) := by
  refine CtrN.intro (L0 := #[vi x1]) (plainFor_of_name pn0) O0 (own_entry rfl) ?_
  intro p e s m below meth c T0 hy hml hret hlk hnm W0
  refine o_getS W0 (w22 hw) Via.refl (SgCS.ext W0.ox) 3 (hb hy d36_0) rfl ?_
  intro T1 W1
  refine o_ifN W1 6 (hb hy d36_3) (XT.i0_eq_f NgCS) rfl <| o_iloadN W1 7 (hb hy d36_6) rfl rfl ?_
  refine o_staticC W1 (w190 hw) (w129 hw) (w130 hw) (w131 hw) (by decide) (rm104 l hw x1 h0 W1.old hu2) 0 0 0 (by decide) (by rw [hml]; rfl) (lenOf pd12 rfl) [] rfl rfl 10 (hb hy d36_7) rfl rfl rfl all0 tri ?_
  intro v3 T3 h3 lo3 W3 K3 q3
  obtain rfl := q3.2.2
  show Gl _ _ _ _ _ _ _ _ [(.int 1)]
  refine o_ifN W3 13 (hb hy d36_10) (XT.i0_eq_f (by decide)) rfl ?_
  refine o_new W3 (w183 hw) (w2 hw) (w3 hw) tri 16 (hb hy d36_13) rfl (cells' := 1) (slots' := 4) rfl rfl (by decide) (by decide) ?_
  intro b4 T4 h4 W4 E4 ge4 gz4 gb4 A4 D4
  have Fb4_value : Fld Z h4 b4 s0 "value" "[B" .null := D4 (Or.inr (w16 hw)) (ty := (.array .byte)) (by decide)
  have Fb4_coder : Fld Z h4 b4 s0 "coder" "B" iZ := D4 (Or.inr (w17 hw)) (ty := .byte) (by decide)
  refine o_dup W4 17 (hb hy d36_16) rfl rfl <| o_iloadN W4 18 (hb hy d36_17) rfl rfl ?_
  refine o_staticC W4 (w191 hw) (w192 hw) (w130 hw) (w193 hw) (by decide) (rm105 l hw x1 h4 W4.old ) 2 2 5 (by decide) (by rw [hml]; rfl) (lenOf pd25 rfl) [(.ref b4), (.ref b4)] rfl rfl 21 (hb hy d36_18) rfl rfl rfl all0 tri ?_
  intro v5 T5 h5 lo5 W5 K5 q5
  obtain ⟨r1_5, r2_5, P5_0, P5_1, rfl⟩ := q5.2.2
  show Gl _ _ _ _ _ _ _ _ [(.ref r1_5), (.ref b4), (.ref b4)]
  refine o_iconst W5 (v := 0) 22 (hb hy d36_21) rfl rfl ?_
  have c6 := (Fb4_value.keep K5 nin0)
  have c7 := (Fb4_coder.keep K5 nin0)
  have c8 := (A4.keep K5)
  refine o_specialC W5 rfl (w194 hw) (w195 hw) (w196 hw) (by decide) (w3 hw) (rm106 l hw b4 r1_5 h5 W5.old c8 c6 gz4 c7) 1 2 5 (by decide) (by rw [hml]; rfl) (lenOf pd26 rfl) [(.ref b4)] rfl rfl 25 (hb hy d36_22) rfl rfl rfl (allS ⟨gz4, (Or.inr gb4)⟩ all0) tri ?_
  intro v9 T9 h9 lo9 W9 K9 q9
  obtain ⟨P9_0, P9_1, rfl⟩ := q9.2.2
  show Gl _ _ _ _ _ _ _ _ [(.ref b4)]
  have c10 := (c8.keep K9)
  have c11 := (P5_1.keep K9 (ninS (own_ne' A4.lt P5_0) nin0))
  exact o_retA W9 hlk (v := (.ref b4)) hret rfl rfl (hb hy d36_25) (by decide) (by decide) ⟨b4, r1_5, r2_5, gb4, (Nat.le_trans W4.keep.1 P5_0), c10, P9_0, P9_1, c11, rfl⟩
theorem rm108 (l : Launch) {Z a0} (hw : HW Z a0) (a1 a2 : Addr) (z0 : ClassId) (h0 : Heap) (O0 : Old Z Z.heap.size h0) (z1 : Fld Z h0 a1 s1 "value" "[B" (.ref a2)) (z2 : Arv Z h0 a2 z0 .byte 16 [iZ, iZ, iZ, iZ, iZ, iZ, iZ, iZ, iZ, iZ, iZ, iZ, iZ, iZ, iZ, iZ] iZ) (z3 : Fld Z h0 a1 s1 "coder" "B" iZ) :
    CtrN l Z mn7 jdk_68_method_9_code 3 none [] (⟨0, 0, 0, 0⟩ : Room) #[(.ref a1), (.int 1)] h0 [] (fun v h => v = none) := by
  refine CtrN.intro (L0 := #[vr a1, vi 1, un]) (plainFor_of_name pn1) O0 (own_entry rfl) ?_
  intro p e s m below meth c T0 hy hml hret hlk hnm W0
  refine o_aloadN W0 1 (hb hy d15_0) rfl rfl rfl ?_
  refine o_getF W0 (w55 hw) Via.refl z1 4 (hb hy d15_1) rfl ?_
  intro T1 W1
  refine o_len W1 z2 5 (hb hy d15_4) rfl <| o_aloadN W1 6 (hb hy d15_5) rfl rfl rfl ?_
  refine o_getF W1 (w57 hw) Via.refl z3 9 (hb hy d15_6) rfl ?_
  intro T2 W2
  refine o_ishr W2 (v := 16) 10 (hb hy d15_9) (by decide) rfl <| o_istoreN W2 (L' := #[vr a1, vi 1, vi 16]) 11 (hb hy d15_10) rfl rfl <| o_iloadN W2 12 (hb hy d15_11) rfl rfl <| o_iloadN W2 13 (hb hy d15_12) rfl rfl <| o_isub W2 (v := (-15 : Int32)) 14 (hb hy d15_13) (by decide) rfl <| o_ifY W2 38 (hb hy d15_14) (XT.i0_le_t (by decide)) (by decide) rfl ?_
  exact o_ret0 W2 hlk hret (hb hy d15_38) (by decide) (by decide) rfl
theorem rm109 (l : Launch) {Z a0} (hw : HW Z a0)  (h0 : Heap) (O0 : Old Z Z.heap.size h0) :
    CtrN l Z mn14 jdk_43_method_3_code 1 (some .boolean) [] (⟨0, 0, 0, 0⟩ : Room) #[(.int 60)] h0 [] (fun v h => v = some (.int 1)) := by
  refine CtrN.intro (L0 := #[vi 60]) (plainFor_of_name pn4) O0 (own_entry rfl) ?_
  intro p e s m below meth c T0 hy hml hret hlk hnm W0
  refine o_iloadN W0 1 (hb hy d22_0) rfl rfl <| o_sipush W0 (v := 255) 4 (hb hy d22_1) (by decide) rfl <| o_icmpN W0 7 (hb hy d22_4) (XT.ii_gt_f (by decide)) rfl <| o_iconst W0 (v := 1) 8 (hb hy d22_7) rfl rfl <| o_goto W0 12 (hb hy d22_8) (by decide) rfl ?_
  exact o_retN W0 hlk (t := .boolean) hret (by simp) (z' := (1 : Int32)) (by decide) (hb hy d22_12) (by decide) (by decide) rfl
theorem rm110 (l : Launch) {Z a0} (hw : HW Z a0) (gCS : Int32) (a1 a2 : Addr) (z0 : ClassId) (h0 : Heap) (O0 : Old Z Z.heap.size h0) (z1 : Fld Z h0 a1 s1 "count" "I" iZ) (z2 : Exa Z h0 a1 s2) (z3 : Fld Z h0 a1 s1 "value" "[B" (.ref a2)) (z4 : Arv Z h0 a2 z0 .byte 16 [iZ, iZ, iZ, iZ, iZ, iZ, iZ, iZ, iZ, iZ, iZ, iZ, iZ, iZ, iZ, iZ] iZ) (z5 : Fld Z h0 a1 s1 "coder" "B" iZ) (SgCS : Sta Z Z.heap s0 s3 "Z" (.int gCS)) (NgCS : ¬ (gCS = (0 : Int32))) (z6 : Z.heap.size ≤ a1) (z7 : Z.heap.size ≤ a2) :
    CtrN l Z mn15 jdk_68_method_31_code 2 (some (.object s1)) [] (⟨1, 0, 0, 14⟩ : Room) #[(.ref a1), (.int 60)] h0 [a1, a2] (fun v h => Fld Z h a1 s1 "count" "I" (.int 1) ∧ Fld Z h a1 s1 "value" "[B" (.ref a2) ∧ Arv Z h a2 z0 .byte 16 [(.int 60), iZ, iZ, iZ, iZ, iZ, iZ, iZ, iZ, iZ, iZ, iZ, iZ, iZ, iZ, iZ] iZ ∧ Fld Z h a1 s1 "coder" "B" iZ ∧ v = some (.ref a1)) := by
  refine CtrN.intro (L0 := #[vr a1, vi 60]) (plainFor_of_name pn1) O0 (own_entry rfl) ?_
  intro p e s m below meth c T0 hy hml hret hlk hnm W0
  refine o_aloadN W0 1 (hb hy d20_0) rfl rfl rfl <| o_aloadN W0 2 (hb hy d20_1) rfl rfl rfl ?_
  refine o_getF W0 (w87 hw) Via.refl z1 5 (hb hy d20_2) rfl ?_
  intro T1 W1
  refine o_iconst W1 (v := 1) 6 (hb hy d20_5) rfl rfl <| o_iadd W1 (v := 1) 7 (hb hy d20_6) (by decide) rfl ?_
  refine o_privateC W1 (w89 hw) (w90 hw) (w92 hw) (w91 hw) (w93 hw) (by decide) z2 (w51 hw) (rm108 l hw a1 a2 z0 h0 W1.old z3 z4 z5) 0 0 0 (by decide) (by rw [hml]; rfl) (lenOf pd2 rfl) [] rfl rfl 10 (hb hy d20_7) rfl rfl rfl all0 tri ?_
  intro v2 T2 h2 lo2 W2 K2 q2
  obtain rfl := q2.2.2
  show Gl _ _ _ _ _ _ _ _ []
  refine o_aloadN W2 11 (hb hy d20_10) rfl rfl rfl ?_
  have c3 := (z5.keep K2 nin0)
  have c4 := (z2.keep K2)
  refine o_virtualC W2 (w123 hw) (w124 hw) (o_nf W2 rfl (w126 hw)) (w126 hw) (w125 hw) (by decide) c4 (w127 hw) (w51 hw) (rm21 l hw gCS a1 h2 W2.old SgCS NgCS c3) 0 0 0 (by decide) (by rw [hml]; rfl) (lenOf pd11 rfl) [] rfl rfl 14 (hb hy d20_11) rfl rfl rfl all0 tri ?_
  intro v5 T5 h5 lo5 W5 K5 q5
  obtain rfl := q5.2.2
  show Gl _ _ _ _ _ _ _ _ [(.int 1)]
  refine o_ifN W5 17 (hb hy d20_14) (XT.i0_eq_f (by decide)) rfl <| o_iloadN W5 18 (hb hy d20_17) rfl rfl ?_
  refine o_staticC W5 (w128 hw) (w129 hw) (w130 hw) (w131 hw) (by decide) (rm109 l hw  h5 W5.old ) 0 0 0 (by decide) (by rw [hml]; rfl) (lenOf pd12 rfl) [] rfl rfl 21 (hb hy d20_18) rfl rfl rfl all0 tri ?_
  intro v6 T6 h6 lo6 W6 K6 q6
  obtain rfl := q6.2.2
  show Gl _ _ _ _ _ _ _ _ [(.int 1)]
  refine o_ifN W6 24 (hb hy d20_21) (XT.i0_eq_f (by decide)) rfl <| o_aloadN W6 25 (hb hy d20_24) rfl rfl rfl ?_
  have c7 := (((z3.keep K2 nin0).keep K5 nin0).keep K6 nin0)
  refine o_getF W6 (w55 hw) Via.refl c7 28 (hb hy d20_25) rfl ?_
  intro T8 W8
  refine o_aloadN W8 29 (hb hy d20_28) rfl rfl rfl <| o_dup W8 30 (hb hy d20_29) rfl rfl ?_
  have c9 := (((z1.keep K2 nin0).keep K5 nin0).keep K6 nin0)
  refine o_getF W8 (w87 hw) Via.refl c9 33 (hb hy d20_30) rfl ?_
  intro T10 W10
  refine o_dupX1 W10 34 (hb hy d20_33) rfl rfl rfl <| o_iconst W10 (v := 1) 35 (hb hy d20_34) rfl rfl <| o_iadd W10 (v := 1) 36 (hb hy d20_35) (by decide) rfl ?_
  have c11 := ((c4.keep K5).keep K6)
  refine o_putF W10 (w87 hw) Via.refl c9 c11 (Or.inl (w88 hw)) (w42 hw) (ty := .int) (v' := (.int 1)) (by decide) rfl rfl z6 m0 tri 39 (hb hy d20_36) rfl ?_
  intro T12 h12 lo12 W12 R12
  have F12 := c9.same R12
  refine o_iloadN W12 40 (hb hy d20_39) rfl rfl <| o_i2b W12 (v := 60) 41 (hb hy d20_40) (by decide) rfl ?_
  have c13 := (c11.wr R12)
  have c14 := (((z4.keep K2 nin0).keep K5 nin0).keep K6 nin0)
  have c15 := ((((z4.keep K2 nin0).keep K5 nin0).keep K6 nin0).other R12 (Ne.symm (Exa.neArv c11 c14 (w42 hw))))
  refine o_stB W12 c15 (i := 0) (x' := (60 : Int32)) (by decide) (by decide) (by decide) (Nat.lt_of_sub_eq_succ rfl) (by decide) (vs' := [(.int 60), iZ, iZ, iZ, iZ, iZ, iZ, iZ, iZ, iZ, iZ, iZ, iZ, iZ, iZ, iZ]) rfl z7 (Or.inl (List.mem_of_getElem? (i := 1) rfl)) tri 42 (hb hy d20_41) rfl ?_
  intro T16 h16 lo16 W16 R16 V16
  refine o_goto W16 75 (hb hy d20_42) (by decide) rfl <| o_aloadN W16 76 (hb hy d20_75) rfl rfl rfl ?_
  have c17 := (c13.wr R16)
  have c18 := (F12.other R16 (Or.inl (Exa.neArv c13 c15 (w42 hw))))
  have c19 := ((c7.other R12 (Or.inr (slot_ne (Or.inl (w56 hw)) (Or.inl (w88 hw)) (by decide) (t := (.array .byte)) (t' := .int) (by decide) (by decide)))).other R16 (Or.inl (Exa.neArv c13 c15 (w42 hw))))
  have c20 := ((((c3.keep K5 nin0).keep K6 nin0).other R12 (Or.inr (slot_ne (Or.inl (w58 hw)) (Or.inl (w88 hw)) (by decide) (t := .byte) (t' := .int) (by decide) (by decide)))).other R16 (Or.inl (Exa.neArv c13 c15 (w42 hw))))
  exact o_retA W16 hlk (v := (.ref a1)) hret rfl rfl (hb hy d20_76) (by decide) (by decide) ⟨c18, c19, V16, c20, rfl⟩
theorem rm111 (l : Launch) {Z a0} (hw : HW Z a0) (gCS : Int32) (a1 a2 : Addr) (z0 : ClassId) (h0 : Heap) (O0 : Old Z Z.heap.size h0) (z1 : Fld Z h0 a1 s1 "count" "I" iZ) (z2 : Exa Z h0 a1 s2) (z3 : Fld Z h0 a1 s1 "value" "[B" (.ref a2)) (z4 : Arv Z h0 a2 z0 .byte 16 [iZ, iZ, iZ, iZ, iZ, iZ, iZ, iZ, iZ, iZ, iZ, iZ, iZ, iZ, iZ, iZ] iZ) (z5 : Fld Z h0 a1 s1 "coder" "B" iZ) (SgCS : Sta Z Z.heap s0 s3 "Z" (.int gCS)) (NgCS : ¬ (gCS = (0 : Int32))) (z6 : Z.heap.size ≤ a1) (z7 : Z.heap.size ≤ a2) :
    CtrN l Z mn16 jdk_67_method_14_code 2 (some (.object s2)) [] (⟨2, 0, 0, 27⟩ : Room) #[(.ref a1), (.int 60)] h0 [a2, a1] (fun v h => Fld Z h a1 s1 "count" "I" (.int 1) ∧ Fld Z h a1 s1 "value" "[B" (.ref a2) ∧ Arv Z h a2 z0 .byte 16 [(.int 60), iZ, iZ, iZ, iZ, iZ, iZ, iZ, iZ, iZ, iZ, iZ, iZ, iZ, iZ, iZ] iZ ∧ Fld Z h a1 s1 "coder" "B" iZ ∧ v = some (.ref a1)) := by
  refine CtrN.intro (L0 := #[vr a1, vi 60]) (plainFor_of_name pn2) O0 (own_entry rfl) ?_
  intro p e s m below meth c T0 hy hml hret hlk hnm W0
  refine o_aloadN W0 1 (hb hy d19_0) rfl rfl rfl <| o_iloadN W0 2 (hb hy d19_1) rfl rfl ?_
  refine o_superC W0 (by decide) (w119 hw) (w120 hw) (own_sameN (y := mn15) (y2 := mn7) (by decide) (w120 hw) rfl (w90 hw) (w92 hw)) (w74 hw) (w122 hw) (Ins.self z2) (w51 hw) (rm110 l hw gCS a1 a2 z0 h0 W0.old z1 z2 z3 z4 z5 SgCS NgCS z6 z7) 0 0 0 (by decide) (by rw [hml]; rfl) (lenOf pd13 rfl) [] rfl rfl 5 (hb hy d19_2) rfl rfl rfl (allS ⟨z6, (Or.inl (List.mem_of_getElem? (i := 1) rfl))⟩ (allS ⟨z7, m0⟩ all0)) tri ?_
  intro v1 T1 h1 lo1 W1 K1 q1
  obtain ⟨P1_0, P1_1, P1_2, P1_3, rfl⟩ := q1.2.2
  show Gl _ _ _ _ _ _ _ _ [(.ref a1)]
  refine o_pop W1 6 (hb hy d19_5) rfl rfl <| o_aloadN W1 7 (hb hy d19_6) rfl rfl rfl ?_
  have c2 := (z2.keep K1)
  exact o_retA W1 hlk (v := (.ref a1)) hret rfl rfl (hb hy d19_7) (by decide) (by decide) ⟨P1_0, P1_1, P1_2, P1_3, rfl⟩
theorem rm112 (l : Launch) {Z a0} (hw : HW Z a0) (a1 a2 : Addr) (z0 : ClassId) (h0 : Heap) (O0 : Old Z Z.heap.size h0) (z1 : Fld Z h0 a1 s1 "value" "[B" (.ref a2)) (z2 : Arv Z h0 a2 z0 .byte 16 [(.int 60), iZ, iZ, iZ, iZ, iZ, iZ, iZ, iZ, iZ, iZ, iZ, iZ, iZ, iZ, iZ] iZ) (z3 : Fld Z h0 a1 s1 "coder" "B" iZ) :
    CtrN l Z mn7 jdk_68_method_9_code 3 none [] (⟨0, 0, 0, 0⟩ : Room) #[(.ref a1), (.int 2)] h0 [] (fun v h => v = none) := by
  refine CtrN.intro (L0 := #[vr a1, vi 2, un]) (plainFor_of_name pn1) O0 (own_entry rfl) ?_
  intro p e s m below meth c T0 hy hml hret hlk hnm W0
  refine o_aloadN W0 1 (hb hy d15_0) rfl rfl rfl ?_
  refine o_getF W0 (w55 hw) Via.refl z1 4 (hb hy d15_1) rfl ?_
  intro T1 W1
  refine o_len W1 z2 5 (hb hy d15_4) rfl <| o_aloadN W1 6 (hb hy d15_5) rfl rfl rfl ?_
  refine o_getF W1 (w57 hw) Via.refl z3 9 (hb hy d15_6) rfl ?_
  intro T2 W2
  refine o_ishr W2 (v := 16) 10 (hb hy d15_9) (by decide) rfl <| o_istoreN W2 (L' := #[vr a1, vi 2, vi 16]) 11 (hb hy d15_10) rfl rfl <| o_iloadN W2 12 (hb hy d15_11) rfl rfl <| o_iloadN W2 13 (hb hy d15_12) rfl rfl <| o_isub W2 (v := (-14 : Int32)) 14 (hb hy d15_13) (by decide) rfl <| o_ifY W2 38 (hb hy d15_14) (XT.i0_le_t (by decide)) (by decide) rfl ?_
  exact o_ret0 W2 hlk hret (hb hy d15_38) (by decide) (by decide) rfl
theorem rm113 (l : Launch) {Z a0} (hw : HW Z a0) (gCS : Int32) (a1 a2 a3 : Addr) (z0 : ClassId) (x1 : Int32) (z1 : ClassId) (h0 : Heap) (O0 : Old Z Z.heap.size h0) (z2 : Exa Z h0 a1 s0) (SgCS : Sta Z Z.heap s0 s3 "Z" (.int gCS)) (NgCS : ¬ (gCS = (0 : Int32))) (z3 : Fld Z h0 a1 s0 "coder" "B" iZ) (z4 : Fld Z h0 a1 s0 "value" "[B" (.ref a3)) (z5 : Arv Z h0 a3 z0 .byte 1 [(.int (b8 x1))] iZ) (z6 : Arv Z h0 a2 z1 .byte 16 [(.int 60), iZ, iZ, iZ, iZ, iZ, iZ, iZ, iZ, iZ, iZ, iZ, iZ, iZ, iZ, iZ] iZ) (z7 : Z.heap.size ≤ a2) :
    CtrN l Z mn9 jdk_42_method_147_code 4 none [] (⟨1, 0, 0, 27⟩ : Room) #[(.ref a1), (.ref a2), (.int 1), iZ] h0 [a2] (fun v h => Arv Z h a2 z1 .byte 16 [(.int 60), (.int (b8 x1)), iZ, iZ, iZ, iZ, iZ, iZ, iZ, iZ, iZ, iZ, iZ, iZ, iZ, iZ] iZ ∧ v = none) := by
  refine CtrN.intro (L0 := #[vr a1, vr a2, vi 1, vi 0]) (plainFor_of_name pn0) O0 (own_entry rfl) ?_
  intro p e s m below meth c T0 hy hml hret hlk hnm W0
  refine o_aloadN W0 1 (hb hy d18_0) rfl rfl rfl ?_
  refine o_virtualC W0 (w82 hw) (w83 hw) (o_nf W0 rfl (w85 hw)) (w85 hw) (w84 hw) (by decide) z2 (w86 hw) (w3 hw) (rm6 l hw gCS a1 h0 W0.old SgCS NgCS z3) 0 0 0 (by decide) (by rw [hml]; rfl) (lenOf pd4 rfl) [] rfl rfl 4 (hb hy d18_1) rfl rfl rfl all0 tri ?_
  intro v1 T1 h1 lo1 W1 K1 q1
  obtain rfl := q1.2.2
  show Gl _ _ _ _ _ _ _ _ [iZ]
  refine o_iloadN W1 5 (hb hy d18_4) rfl rfl <| o_icmpN W1 8 (hb hy d18_5) (XT.ii_ne_f (by decide)) rfl <| o_aloadN W1 9 (hb hy d18_8) rfl rfl rfl ?_
  have c2 := (z4.keep K1 nin0)
  refine o_getF W1 (w20 hw) Via.refl c2 12 (hb hy d18_9) rfl ?_
  intro T3 W3
  refine o_iconst W3 (v := 0) 13 (hb hy d18_12) rfl rfl <| o_aloadN W3 14 (hb hy d18_13) rfl rfl rfl <| o_iloadN W3 15 (hb hy d18_14) rfl rfl <| o_iloadN W3 16 (hb hy d18_15) rfl rfl <| o_ishl W3 (v := 1) 17 (hb hy d18_16) (by decide) rfl <| o_aloadN W3 18 (hb hy d18_17) rfl rfl rfl ?_
  refine o_getF W3 (w20 hw) Via.refl c2 21 (hb hy d18_18) rfl ?_
  intro T4 W4
  have c5 := (z5.keep K1 nin0)
  refine o_len W4 c5 22 (hb hy d18_21) rfl ?_
  have c6 := (z6.keep K1 nin0)
  refine o_copy W4 (w110 hw) (w113 hw) (w111 hw) (w112 hw) c5 c6 (us := [(.int (b8 x1))]) (Or.inl ⟨rfl, rfl⟩) (by decide) (by decide) (by decide) (by decide) (by decide) rfl (Nat.le_of_ble_eq_true rfl) (vd' := [(.int 60), (.int (b8 x1)), iZ, iZ, iZ, iZ, iZ, iZ, iZ, iZ, iZ, iZ, iZ, iZ, iZ, iZ]) rfl z7 m0 tri (by rw [hml]; rfl) 25 (hb hy d18_22) rfl (by decide) 0 (by exact Nat.le_of_eq rfl) (by decide) ?_
  intro T7 h7 lo7 W7 K7 V7
  refine o_goto W7 43 (hb hy d18_25) (by decide) rfl ?_
  exact o_ret0 W7 hlk hret (hb hy d18_43) (by decide) (by decide) ⟨V7, rfl⟩
theorem rm114 (l : Launch) {Z a0} (hw : HW Z a0) (gCS : Int32) (a1 a2 a3 a4 : Addr) (z0 : ClassId) (x1 : Int32) (z1 : ClassId) (h0 : Heap) (O0 : Old Z Z.heap.size h0) (z2 : Exa Z h0 a1 s2) (SgCS : Sta Z Z.heap s0 s3 "Z" (.int gCS)) (NgCS : ¬ (gCS = (0 : Int32))) (z3 : Fld Z h0 a1 s1 "coder" "B" iZ) (z4 : Exa Z h0 a2 s0) (z5 : Fld Z h0 a2 s0 "coder" "B" iZ) (z6 : Fld Z h0 a1 s1 "value" "[B" (.ref a3)) (z7 : Fld Z h0 a2 s0 "value" "[B" (.ref a4)) (z8 : Arv Z h0 a4 z0 .byte 1 [(.int (b8 x1))] iZ) (z9 : Arv Z h0 a3 z1 .byte 16 [(.int 60), iZ, iZ, iZ, iZ, iZ, iZ, iZ, iZ, iZ, iZ, iZ, iZ, iZ, iZ, iZ] iZ) (z10 : Z.heap.size ≤ a3) :
    CtrN l Z mn10 jdk_68_method_73_code 3 none [] (⟨2, 0, 0, 42⟩ : Room) #[(.ref a1), (.int 1), (.ref a2)] h0 [a3] (fun v h => Arv Z h a3 z1 .byte 16 [(.int 60), (.int (b8 x1)), iZ, iZ, iZ, iZ, iZ, iZ, iZ, iZ, iZ, iZ, iZ, iZ, iZ, iZ] iZ ∧ v = none) := by
  refine CtrN.intro (L0 := #[vr a1, vi 1, vr a2]) (plainFor_of_name pn1) O0 (own_entry rfl) ?_
  intro p e s m below meth c T0 hy hml hret hlk hnm W0
  refine o_aloadN W0 1 (hb hy d16_0) rfl rfl rfl <| o_aloadN W0 2 (hb hy d16_1) rfl rfl rfl ?_
  refine o_privateC W0 (w99 hw) (w100 hw) (w102 hw) (w101 hw) (w103 hw) (by decide) z2 (w51 hw) (rm9 l hw gCS a1 a2 h0 W0.old SgCS NgCS z3 z4 z5) 0 0 0 (by decide) (by rw [hml]; rfl) (lenOf pd6 rfl) [] rfl rfl 5 (hb hy d16_2) rfl rfl rfl all0 tri ?_
  intro v1 T1 h1 lo1 W1 K1 q1
  obtain rfl := q1.2.2
  show Gl _ _ _ _ _ _ _ _ []
  refine o_aloadN W1 6 (hb hy d16_5) rfl rfl rfl <| o_aloadN W1 7 (hb hy d16_6) rfl rfl rfl ?_
  have c2 := (z6.keep K1 nin0)
  refine o_getF W1 (w55 hw) Via.refl c2 10 (hb hy d16_7) rfl ?_
  intro T3 W3
  refine o_iloadN W3 11 (hb hy d16_10) rfl rfl <| o_aloadN W3 12 (hb hy d16_11) rfl rfl rfl ?_
  have c4 := (z3.keep K1 nin0)
  refine o_getF W3 (w57 hw) Via.refl c4 15 (hb hy d16_12) rfl ?_
  intro T5 W5
  have c6 := (z5.keep K1 nin0)
  have c7 := (z7.keep K1 nin0)
  have c8 := (z8.keep K1 nin0)
  have c9 := (z9.keep K1 nin0)
  have c10 := (z4.keep K1)
  refine o_virtualC W5 (w105 hw) (w106 hw) (o_nf W5 rfl (w108 hw)) (w108 hw) (w107 hw) (by decide) c10 (w109 hw) (w3 hw) (rm113 l hw gCS a2 a3 a4 z0 x1 z1 h1 W5.old c10 SgCS NgCS c6 c7 c8 c9 z10) 0 0 0 (by decide) (by rw [hml]; rfl) (lenOf pd7 rfl) [] rfl rfl 18 (hb hy d16_15) rfl rfl rfl (allS ⟨z10, m0⟩ all0) tri ?_
  intro v11 T11 h11 lo11 W11 K11 q11
  obtain ⟨P11_0, rfl⟩ := q11.2.2
  show Gl _ _ _ _ _ _ _ _ []
  exact o_ret0 W11 hlk hret (hb hy d16_18) (by decide) (by decide) ⟨P11_0, rfl⟩
theorem rm115 (l : Launch) {Z a0} (hw : HW Z a0) (gCS : Int32) (a1 a2 a3 : Addr) (z0 : ClassId) (x1 : Int32) (a4 : Addr) (z1 : ClassId) (h0 : Heap) (O0 : Old Z Z.heap.size h0) (z2 : Exa Z h0 a2 s0) (z3 : Fld Z h0 a2 s0 "value" "[B" (.ref a3)) (z4 : Arv Z h0 a3 z0 .byte 1 [(.int (b8 x1))] iZ) (SgCS : Sta Z Z.heap s0 s3 "Z" (.int gCS)) (NgCS : ¬ (gCS = (0 : Int32))) (z5 : Fld Z h0 a2 s0 "coder" "B" iZ) (z6 : Fld Z h0 a1 s1 "count" "I" (.int 1)) (z7 : Exa Z h0 a1 s2) (z8 : Fld Z h0 a1 s1 "value" "[B" (.ref a4)) (z9 : Arv Z h0 a4 z1 .byte 16 [(.int 60), iZ, iZ, iZ, iZ, iZ, iZ, iZ, iZ, iZ, iZ, iZ, iZ, iZ, iZ, iZ] iZ) (z10 : Fld Z h0 a1 s1 "coder" "B" iZ) (z11 : Z.heap.size ≤ a4) (z12 : Z.heap.size ≤ a1) :
    CtrN l Z mn11 jdk_68_method_22_code 3 (some (.object s1)) [] (⟨3, 0, 0, 56⟩ : Room) #[(.ref a1), (.ref a2)] h0 [a4, a1] (fun v h => Fld Z h a1 s1 "count" "I" (.int 2) ∧ Fld Z h a1 s1 "value" "[B" (.ref a4) ∧ Arv Z h a4 z1 .byte 16 [(.int 60), (.int (b8 x1)), iZ, iZ, iZ, iZ, iZ, iZ, iZ, iZ, iZ, iZ, iZ, iZ, iZ, iZ] iZ ∧ Fld Z h a1 s1 "coder" "B" iZ ∧ v = some (.ref a1)) := by
  refine CtrN.intro (L0 := #[vr a1, vr a2, un]) (plainFor_of_name pn1) O0 (own_entry rfl) ?_
  intro p e s m below meth c T0 hy hml hret hlk hnm W0
  refine o_aloadN W0 1 (hb hy d12_0) rfl rfl rfl ?_
  refine o_ifnonnullY W0 9 (hb hy d12_1) (by decide) rfl ?_
  refine o_aloadN W0 10 (hb hy d12_9) rfl rfl rfl ?_
  refine o_virtualC W0 (w77 hw) (w78 hw) (o_nf W0 rfl (w80 hw)) (w80 hw) (w79 hw) (by decide) z2 (w81 hw) (w3 hw) (rm39 l hw gCS a2 a3 z0 x1 h0 W0.old z3 z4 z2 SgCS NgCS z5) 0 0 0 (by decide) (by rw [hml]; rfl) (lenOf pd5 rfl) [] rfl rfl 13 (hb hy d12_10) rfl rfl rfl all0 tri ?_
  intro v1 T1 h1 lo1 W1 K1 q1
  obtain rfl := q1.2.2
  show Gl _ _ _ _ _ _ _ _ [(.int 1)]
  refine o_istoreN W1 (L' := #[vr a1, vr a2, vi 1]) 14 (hb hy d12_13) rfl rfl <| o_aloadN W1 15 (hb hy d12_14) rfl rfl rfl <| o_aloadN W1 16 (hb hy d12_15) rfl rfl rfl ?_
  have c2 := (z6.keep K1 nin0)
  refine o_getF W1 (w87 hw) Via.refl c2 19 (hb hy d12_16) rfl ?_
  intro T3 W3
  refine o_iloadN W3 20 (hb hy d12_19) rfl rfl <| o_iadd W3 (v := 2) 21 (hb hy d12_20) (by decide) rfl ?_
  have c4 := (z7.keep K1)
  have c5 := (z8.keep K1 nin0)
  have c6 := (z9.keep K1 nin0)
  have c7 := (z10.keep K1 nin0)
  refine o_privateC W3 (w89 hw) (w90 hw) (w92 hw) (w91 hw) (w93 hw) (by decide) c4 (w51 hw) (rm112 l hw a1 a4 z1 h1 W3.old c5 c6 c7) 0 0 0 (by decide) (by rw [hml]; rfl) (lenOf pd2 rfl) [] rfl rfl 24 (hb hy d12_21) rfl rfl rfl all0 tri ?_
  intro v8 T8 h8 lo8 W8 K8 q8
  obtain rfl := q8.2.2
  show Gl _ _ _ _ _ _ _ _ []
  refine o_aloadN W8 25 (hb hy d12_24) rfl rfl rfl <| o_aloadN W8 26 (hb hy d12_25) rfl rfl rfl ?_
  have c9 := (c2.keep K8 nin0)
  refine o_getF W8 (w87 hw) Via.refl c9 29 (hb hy d12_26) rfl ?_
  intro T10 W10
  refine o_aloadN W10 30 (hb hy d12_29) rfl rfl rfl ?_
  have c11 := (c7.keep K8 nin0)
  have c12 := ((z5.keep K1 nin0).keep K8 nin0)
  have c13 := (c5.keep K8 nin0)
  have c14 := ((z3.keep K1 nin0).keep K8 nin0)
  have c15 := ((z4.keep K1 nin0).keep K8 nin0)
  have c16 := (c6.keep K8 nin0)
  have c17 := (c4.keep K8)
  have c18 := ((z2.keep K1).keep K8)
  refine o_privateC W10 (w94 hw) (w95 hw) (w97 hw) (w96 hw) (w98 hw) (by decide) c17 (w51 hw) (rm114 l hw gCS a1 a2 a4 a3 z0 x1 z1 h8 W10.old c17 SgCS NgCS c11 c18 c12 c13 c14 c15 c16 z11) 0 0 0 (by decide) (by rw [hml]; rfl) (lenOf pd8 rfl) [] rfl rfl 33 (hb hy d12_30) rfl rfl rfl (allS ⟨z11, m0⟩ all0) tri ?_
  intro v19 T19 h19 lo19 W19 K19 q19
  obtain ⟨P19_0, rfl⟩ := q19.2.2
  show Gl _ _ _ _ _ _ _ _ []
  refine o_aloadN W19 34 (hb hy d12_33) rfl rfl rfl <| o_dup W19 35 (hb hy d12_34) rfl rfl ?_
  have c20 := (c17.keep K19)
  have c21 := (c9.keep K19 (ninS (Exa.neArv c17 c16 (w42 hw)) nin0))
  refine o_getF W19 (w87 hw) Via.refl c21 38 (hb hy d12_35) rfl ?_
  intro T22 W22
  refine o_iloadN W22 39 (hb hy d12_38) rfl rfl <| o_iadd W22 (v := 2) 40 (hb hy d12_39) (by decide) rfl ?_
  refine o_putF W22 (w87 hw) Via.refl c21 c20 (Or.inl (w88 hw)) (w42 hw) (ty := .int) (v' := (.int 2)) (by decide) rfl rfl z12 (Or.inl (List.mem_of_getElem? (i := 1) rfl)) tri 43 (hb hy d12_40) rfl ?_
  intro T23 h23 lo23 W23 R23
  have F23 := c21.same R23
  refine o_aloadN W23 44 (hb hy d12_43) rfl rfl rfl ?_
  have c24 := (c20.wr R23)
  have c25 := ((c13.keep K19 (ninS (Exa.neArv c17 c16 (w42 hw)) nin0)).other R23 (Or.inr (slot_ne (Or.inl (w56 hw)) (Or.inl (w88 hw)) (by decide) (t := (.array .byte)) (t' := .int) (by decide) (by decide))))
  have c26 := ((c11.keep K19 (ninS (Exa.neArv c17 c16 (w42 hw)) nin0)).other R23 (Or.inr (slot_ne (Or.inl (w58 hw)) (Or.inl (w88 hw)) (by decide) (t := .byte) (t' := .int) (by decide) (by decide))))
  have c27 := (P19_0.other R23 (Ne.symm (Exa.neArv c20 P19_0 (w42 hw))))
  exact o_retA W23 hlk (v := (.ref a1)) hret rfl rfl (hb hy d12_44) (by decide) (by decide) ⟨F23, c25, c27, c26, rfl⟩
theorem rm116 (l : Launch) {Z a0} (hw : HW Z a0) (gCS : Int32) (a1 a2 a3 : Addr) (z0 : ClassId) (x1 : Int32) (a4 : Addr) (z1 : ClassId) (h0 : Heap) (O0 : Old Z Z.heap.size h0) (z2 : Exa Z h0 a2 s0) (z3 : Fld Z h0 a2 s0 "value" "[B" (.ref a3)) (z4 : Arv Z h0 a3 z0 .byte 1 [(.int (b8 x1))] iZ) (SgCS : Sta Z Z.heap s0 s3 "Z" (.int gCS)) (NgCS : ¬ (gCS = (0 : Int32))) (z5 : Fld Z h0 a2 s0 "coder" "B" iZ) (z6 : Fld Z h0 a1 s1 "count" "I" (.int 1)) (z7 : Exa Z h0 a1 s2) (z8 : Fld Z h0 a1 s1 "value" "[B" (.ref a4)) (z9 : Arv Z h0 a4 z1 .byte 16 [(.int 60), iZ, iZ, iZ, iZ, iZ, iZ, iZ, iZ, iZ, iZ, iZ, iZ, iZ, iZ, iZ] iZ) (z10 : Fld Z h0 a1 s1 "coder" "B" iZ) (z11 : Z.heap.size ≤ a4) (z12 : Z.heap.size ≤ a1) :
    CtrN l Z mn12 jdk_67_method_7_code 2 (some (.object s2)) [] (⟨4, 0, 0, 70⟩ : Room) #[(.ref a1), (.ref a2)] h0 [a1, a4] (fun v h => Fld Z h a1 s1 "count" "I" (.int 2) ∧ Fld Z h a1 s1 "value" "[B" (.ref a4) ∧ Arv Z h a4 z1 .byte 16 [(.int 60), (.int (b8 x1)), iZ, iZ, iZ, iZ, iZ, iZ, iZ, iZ, iZ, iZ, iZ, iZ, iZ, iZ] iZ ∧ Fld Z h a1 s1 "coder" "B" iZ ∧ v = some (.ref a1)) := by
  refine CtrN.intro (L0 := #[vr a1, vr a2]) (plainFor_of_name pn2) O0 (own_entry rfl) ?_
  intro p e s m below meth c T0 hy hml hret hlk hnm W0
  refine o_aloadN W0 1 (hb hy d11_0) rfl rfl rfl <| o_aloadN W0 2 (hb hy d11_1) rfl rfl rfl ?_
  refine o_superC W0 (by decide) (w72 hw) (w73 hw) (own_sameN (y := mn11) (y2 := mn7) (by decide) (w73 hw) rfl (w90 hw) (w92 hw)) (w74 hw) (w76 hw) (Ins.self z7) (w51 hw) (rm115 l hw gCS a1 a2 a3 z0 x1 a4 z1 h0 W0.old z2 z3 z4 SgCS NgCS z5 z6 z7 z8 z9 z10 z11 z12) 0 0 0 (by decide) (by rw [hml]; rfl) (lenOf pd9 rfl) [] rfl rfl 5 (hb hy d11_2) rfl rfl rfl (allS ⟨z11, (Or.inl (List.mem_of_getElem? (i := 1) rfl))⟩ (allS ⟨z12, m0⟩ all0)) tri ?_
  intro v1 T1 h1 lo1 W1 K1 q1
  obtain ⟨P1_0, P1_1, P1_2, P1_3, rfl⟩ := q1.2.2
  show Gl _ _ _ _ _ _ _ _ [(.ref a1)]
  refine o_pop W1 6 (hb hy d11_5) rfl rfl <| o_aloadN W1 7 (hb hy d11_6) rfl rfl rfl ?_
  have c2 := (z7.keep K1)
  exact o_retA W1 hlk (v := (.ref a1)) hret rfl rfl (hb hy d11_7) (by decide) (by decide) ⟨P1_0, P1_1, P1_2, P1_3, rfl⟩
theorem rm117 (l : Launch) {Z a0} (hw : HW Z a0) (a1 a2 : Addr) (z0 : ClassId) (x1 : Int32) (h0 : Heap) (O0 : Old Z Z.heap.size h0) (z1 : Fld Z h0 a1 s1 "value" "[B" (.ref a2)) (z2 : Arv Z h0 a2 z0 .byte 16 [(.int 60), (.int x1), iZ, iZ, iZ, iZ, iZ, iZ, iZ, iZ, iZ, iZ, iZ, iZ, iZ, iZ] iZ) (z3 : Fld Z h0 a1 s1 "coder" "B" iZ) :
    CtrN l Z mn7 jdk_68_method_9_code 3 none [] (⟨0, 0, 0, 0⟩ : Room) #[(.ref a1), (.int 3)] h0 [] (fun v h => v = none) := by
  refine CtrN.intro (L0 := #[vr a1, vi 3, un]) (plainFor_of_name pn1) O0 (own_entry rfl) ?_
  intro p e s m below meth c T0 hy hml hret hlk hnm W0
  refine o_aloadN W0 1 (hb hy d15_0) rfl rfl rfl ?_
  refine o_getF W0 (w55 hw) Via.refl z1 4 (hb hy d15_1) rfl ?_
  intro T1 W1
  refine o_len W1 z2 5 (hb hy d15_4) rfl <| o_aloadN W1 6 (hb hy d15_5) rfl rfl rfl ?_
  refine o_getF W1 (w57 hw) Via.refl z3 9 (hb hy d15_6) rfl ?_
  intro T2 W2
  refine o_ishr W2 (v := 16) 10 (hb hy d15_9) (by decide) rfl <| o_istoreN W2 (L' := #[vr a1, vi 3, vi 16]) 11 (hb hy d15_10) rfl rfl <| o_iloadN W2 12 (hb hy d15_11) rfl rfl <| o_iloadN W2 13 (hb hy d15_12) rfl rfl <| o_isub W2 (v := (-13 : Int32)) 14 (hb hy d15_13) (by decide) rfl <| o_ifY W2 38 (hb hy d15_14) (XT.i0_le_t (by decide)) (by decide) rfl ?_
  exact o_ret0 W2 hlk hret (hb hy d15_38) (by decide) (by decide) rfl
theorem rm118 (l : Launch) {Z a0} (hw : HW Z a0) (gCS : Int32) (a1 a2 : Addr) (z0 : ClassId) (x1 : Int32) (h0 : Heap) (O0 : Old Z Z.heap.size h0) (z1 : Fld Z h0 a1 s1 "count" "I" (.int 2)) (z2 : Exa Z h0 a1 s2) (z3 : Fld Z h0 a1 s1 "value" "[B" (.ref a2)) (z4 : Arv Z h0 a2 z0 .byte 16 [(.int 60), (.int x1), iZ, iZ, iZ, iZ, iZ, iZ, iZ, iZ, iZ, iZ, iZ, iZ, iZ, iZ] iZ) (z5 : Fld Z h0 a1 s1 "coder" "B" iZ) (SgCS : Sta Z Z.heap s0 s3 "Z" (.int gCS)) (NgCS : ¬ (gCS = (0 : Int32))) (z6 : Z.heap.size ≤ a1) (z7 : Z.heap.size ≤ a2) :
    CtrN l Z mn15 jdk_68_method_31_code 2 (some (.object s1)) [] (⟨1, 0, 0, 14⟩ : Room) #[(.ref a1), (.int 62)] h0 [a1, a2] (fun v h => Fld Z h a1 s1 "count" "I" (.int 3) ∧ Fld Z h a1 s1 "value" "[B" (.ref a2) ∧ Arv Z h a2 z0 .byte 16 [(.int 60), (.int x1), (.int 62), iZ, iZ, iZ, iZ, iZ, iZ, iZ, iZ, iZ, iZ, iZ, iZ, iZ] iZ ∧ Fld Z h a1 s1 "coder" "B" iZ ∧ v = some (.ref a1)) := by
  refine CtrN.intro (L0 := #[vr a1, vi 62]) (plainFor_of_name pn1) O0 (own_entry rfl) ?_
  intro p e s m below meth c T0 hy hml hret hlk hnm W0
  refine o_aloadN W0 1 (hb hy d20_0) rfl rfl rfl <| o_aloadN W0 2 (hb hy d20_1) rfl rfl rfl ?_
  refine o_getF W0 (w87 hw) Via.refl z1 5 (hb hy d20_2) rfl ?_
  intro T1 W1
  refine o_iconst W1 (v := 1) 6 (hb hy d20_5) rfl rfl <| o_iadd W1 (v := 3) 7 (hb hy d20_6) (by decide) rfl ?_
  refine o_privateC W1 (w89 hw) (w90 hw) (w92 hw) (w91 hw) (w93 hw) (by decide) z2 (w51 hw) (rm117 l hw a1 a2 z0 x1 h0 W1.old z3 z4 z5) 0 0 0 (by decide) (by rw [hml]; rfl) (lenOf pd2 rfl) [] rfl rfl 10 (hb hy d20_7) rfl rfl rfl all0 tri ?_
  intro v2 T2 h2 lo2 W2 K2 q2
  obtain rfl := q2.2.2
  show Gl _ _ _ _ _ _ _ _ []
  refine o_aloadN W2 11 (hb hy d20_10) rfl rfl rfl ?_
  have c3 := (z5.keep K2 nin0)
  have c4 := (z2.keep K2)
  refine o_virtualC W2 (w123 hw) (w124 hw) (o_nf W2 rfl (w126 hw)) (w126 hw) (w125 hw) (by decide) c4 (w127 hw) (w51 hw) (rm21 l hw gCS a1 h2 W2.old SgCS NgCS c3) 0 0 0 (by decide) (by rw [hml]; rfl) (lenOf pd11 rfl) [] rfl rfl 14 (hb hy d20_11) rfl rfl rfl all0 tri ?_
  intro v5 T5 h5 lo5 W5 K5 q5
  obtain rfl := q5.2.2
  show Gl _ _ _ _ _ _ _ _ [(.int 1)]
  refine o_ifN W5 17 (hb hy d20_14) (XT.i0_eq_f (by decide)) rfl <| o_iloadN W5 18 (hb hy d20_17) rfl rfl ?_
  refine o_staticC W5 (w128 hw) (w129 hw) (w130 hw) (w131 hw) (by decide) (rm22 l hw  h5 W5.old ) 0 0 0 (by decide) (by rw [hml]; rfl) (lenOf pd12 rfl) [] rfl rfl 21 (hb hy d20_18) rfl rfl rfl all0 tri ?_
  intro v6 T6 h6 lo6 W6 K6 q6
  obtain rfl := q6.2.2
  show Gl _ _ _ _ _ _ _ _ [(.int 1)]
  refine o_ifN W6 24 (hb hy d20_21) (XT.i0_eq_f (by decide)) rfl <| o_aloadN W6 25 (hb hy d20_24) rfl rfl rfl ?_
  have c7 := (((z3.keep K2 nin0).keep K5 nin0).keep K6 nin0)
  refine o_getF W6 (w55 hw) Via.refl c7 28 (hb hy d20_25) rfl ?_
  intro T8 W8
  refine o_aloadN W8 29 (hb hy d20_28) rfl rfl rfl <| o_dup W8 30 (hb hy d20_29) rfl rfl ?_
  have c9 := (((z1.keep K2 nin0).keep K5 nin0).keep K6 nin0)
  refine o_getF W8 (w87 hw) Via.refl c9 33 (hb hy d20_30) rfl ?_
  intro T10 W10
  refine o_dupX1 W10 34 (hb hy d20_33) rfl rfl rfl <| o_iconst W10 (v := 1) 35 (hb hy d20_34) rfl rfl <| o_iadd W10 (v := 3) 36 (hb hy d20_35) (by decide) rfl ?_
  have c11 := ((c4.keep K5).keep K6)
  refine o_putF W10 (w87 hw) Via.refl c9 c11 (Or.inl (w88 hw)) (w42 hw) (ty := .int) (v' := (.int 3)) (by decide) rfl rfl z6 m0 tri 39 (hb hy d20_36) rfl ?_
  intro T12 h12 lo12 W12 R12
  have F12 := c9.same R12
  refine o_iloadN W12 40 (hb hy d20_39) rfl rfl <| o_i2b W12 (v := 62) 41 (hb hy d20_40) (by decide) rfl ?_
  have c13 := (c11.wr R12)
  have c14 := (((z4.keep K2 nin0).keep K5 nin0).keep K6 nin0)
  have c15 := ((((z4.keep K2 nin0).keep K5 nin0).keep K6 nin0).other R12 (Ne.symm (Exa.neArv c11 c14 (w42 hw))))
  refine o_stB W12 c15 (i := 2) (x' := (62 : Int32)) (by decide) (by decide) (by decide) (Nat.lt_of_sub_eq_succ rfl) (by decide) (vs' := [(.int 60), (.int x1), (.int 62), iZ, iZ, iZ, iZ, iZ, iZ, iZ, iZ, iZ, iZ, iZ, iZ, iZ]) rfl z7 (Or.inl (List.mem_of_getElem? (i := 1) rfl)) tri 42 (hb hy d20_41) rfl ?_
  intro T16 h16 lo16 W16 R16 V16
  refine o_goto W16 75 (hb hy d20_42) (by decide) rfl <| o_aloadN W16 76 (hb hy d20_75) rfl rfl rfl ?_
  have c17 := (c13.wr R16)
  have c18 := (F12.other R16 (Or.inl (Exa.neArv c13 c15 (w42 hw))))
  have c19 := ((c7.other R12 (Or.inr (slot_ne (Or.inl (w56 hw)) (Or.inl (w88 hw)) (by decide) (t := (.array .byte)) (t' := .int) (by decide) (by decide)))).other R16 (Or.inl (Exa.neArv c13 c15 (w42 hw))))
  have c20 := ((((c3.keep K5 nin0).keep K6 nin0).other R12 (Or.inr (slot_ne (Or.inl (w58 hw)) (Or.inl (w88 hw)) (by decide) (t := .byte) (t' := .int) (by decide) (by decide)))).other R16 (Or.inl (Exa.neArv c13 c15 (w42 hw))))
  exact o_retA W16 hlk (v := (.ref a1)) hret rfl rfl (hb hy d20_76) (by decide) (by decide) ⟨c18, c19, V16, c20, rfl⟩
theorem rm119 (l : Launch) {Z a0} (hw : HW Z a0) (gCS : Int32) (a1 a2 : Addr) (z0 : ClassId) (x1 : Int32) (h0 : Heap) (O0 : Old Z Z.heap.size h0) (z1 : Fld Z h0 a1 s1 "count" "I" (.int 2)) (z2 : Exa Z h0 a1 s2) (z3 : Fld Z h0 a1 s1 "value" "[B" (.ref a2)) (z4 : Arv Z h0 a2 z0 .byte 16 [(.int 60), (.int x1), iZ, iZ, iZ, iZ, iZ, iZ, iZ, iZ, iZ, iZ, iZ, iZ, iZ, iZ] iZ) (z5 : Fld Z h0 a1 s1 "coder" "B" iZ) (SgCS : Sta Z Z.heap s0 s3 "Z" (.int gCS)) (NgCS : ¬ (gCS = (0 : Int32))) (z6 : Z.heap.size ≤ a1) (z7 : Z.heap.size ≤ a2) :
    CtrN l Z mn16 jdk_67_method_14_code 2 (some (.object s2)) [] (⟨2, 0, 0, 27⟩ : Room) #[(.ref a1), (.int 62)] h0 [a2, a1] (fun v h => Fld Z h a1 s1 "count" "I" (.int 3) ∧ Fld Z h a1 s1 "value" "[B" (.ref a2) ∧ Arv Z h a2 z0 .byte 16 [(.int 60), (.int x1), (.int 62), iZ, iZ, iZ, iZ, iZ, iZ, iZ, iZ, iZ, iZ, iZ, iZ, iZ] iZ ∧ Fld Z h a1 s1 "coder" "B" iZ ∧ v = some (.ref a1)) := by
  refine CtrN.intro (L0 := #[vr a1, vi 62]) (plainFor_of_name pn2) O0 (own_entry rfl) ?_
  intro p e s m below meth c T0 hy hml hret hlk hnm W0
  refine o_aloadN W0 1 (hb hy d19_0) rfl rfl rfl <| o_iloadN W0 2 (hb hy d19_1) rfl rfl ?_
  refine o_superC W0 (by decide) (w119 hw) (w120 hw) (own_sameN (y := mn15) (y2 := mn7) (by decide) (w120 hw) rfl (w90 hw) (w92 hw)) (w74 hw) (w122 hw) (Ins.self z2) (w51 hw) (rm118 l hw gCS a1 a2 z0 x1 h0 W0.old z1 z2 z3 z4 z5 SgCS NgCS z6 z7) 0 0 0 (by decide) (by rw [hml]; rfl) (lenOf pd13 rfl) [] rfl rfl 5 (hb hy d19_2) rfl rfl rfl (allS ⟨z6, (Or.inl (List.mem_of_getElem? (i := 1) rfl))⟩ (allS ⟨z7, m0⟩ all0)) tri ?_
  intro v1 T1 h1 lo1 W1 K1 q1
  obtain ⟨P1_0, P1_1, P1_2, P1_3, rfl⟩ := q1.2.2
  show Gl _ _ _ _ _ _ _ _ [(.ref a1)]
  refine o_pop W1 6 (hb hy d19_5) rfl rfl <| o_aloadN W1 7 (hb hy d19_6) rfl rfl rfl ?_
  have c2 := (z2.keep K1)
  exact o_retA W1 hlk (v := (.ref a1)) hret rfl rfl (hb hy d19_7) (by decide) (by decide) ⟨P1_0, P1_1, P1_2, P1_3, rfl⟩
theorem rm120 (l : Launch) {Z a0} (hw : HW Z a0) (gCS : Int32) (a1 a2 a3 : Addr) (z0 : ClassId) (a4 a5 : Addr) (z1 : ClassId) (a6 : Addr) (z2 : ClassId) (x1 : Int32) (h0 : Heap) (O0 : Old Z Z.heap.size h0) (z3 : Arv Z h0 a3 z0 (.object s0) 0 [] .null) (z4 : Fld Z h0 a1 s4 "out" s5 (.ref a4)) (z5 : Exa Z h0 a4 s2) (z6 : Fld Z h0 a4 s1 "count" "I" iZ) (z7 : Fld Z h0 a4 s1 "value" "[B" (.ref a5)) (z8 : Arv Z h0 a5 z1 .byte 16 [iZ, iZ, iZ, iZ, iZ, iZ, iZ, iZ, iZ, iZ, iZ, iZ, iZ, iZ, iZ, iZ] iZ) (z9 : Fld Z h0 a4 s1 "coder" "B" iZ) (SgCS : Sta Z Z.heap s0 s3 "Z" (.int gCS)) (NgCS : ¬ (gCS = (0 : Int32))) (z10 : Z.heap.size ≤ a4) (z11 : Z.heap.size ≤ a5) (z12 : Exa Z h0 a2 s0) (z13 : Fld Z h0 a2 s0 "value" "[B" (.ref a6)) (z14 : Arv Z h0 a6 z2 .byte 1 [(.int (b8 x1))] iZ) (z15 : a5 ≠ a6) (z16 : Fld Z h0 a2 s0 "coder" "B" iZ) (z17 : a3 ≠ a5) (z18 : Exa Z h0 a1 s4) :
    CtrN l Z mn34 prog_5_method_2_code 4 (some (.object s4)) [] (⟨5, 0, 0, 83⟩ : Room) #[(.ref a1), (.ref a2), (.ref a3)] h0 [a4, a5] (fun v h => Fld Z h a4 s1 "count" "I" (.int 3) ∧ Fld Z h a4 s1 "value" "[B" (.ref a5) ∧ Arv Z h a5 z1 .byte 16 [(.int 60), (.int (b8 x1)), (.int 62), iZ, iZ, iZ, iZ, iZ, iZ, iZ, iZ, iZ, iZ, iZ, iZ, iZ] iZ ∧ Fld Z h a4 s1 "coder" "B" iZ ∧ v = some (.ref a1)) := by
  refine CtrN.intro (L0 := #[vr a1, vr a2, vr a3, un]) (plainFor_of_name pn3) O0 (own_entry rfl) ?_
  intro p e s m below meth c T0 hy hml hret hlk hnm W0
  refine o_aloadN W0 1 (hb hy d39_0) rfl rfl rfl <| o_len W0 z3 2 (hb hy d39_1) rfl <| o_iconst W0 (v := 2) 3 (hb hy d39_2) rfl rfl ?_
  refine o_irem W0 (v := 0) 4 (hb hy d39_3) (by decide) (by decide) rfl ?_
  refine o_ifY W0 17 (hb hy d39_4) (XT.i0_eq_t (by decide)) (by decide) rfl <| o_aloadN W0 18 (hb hy d39_17) rfl rfl rfl ?_
  refine o_getF W0 (w59 hw) Via.refl z4 21 (hb hy d39_18) rfl ?_
  intro T1 W1
  refine o_bipush W1 (v := 60) 23 (hb hy d39_21) (by decide) rfl ?_
  refine o_virtualC W1 (w114 hw) (w115 hw) (o_nf W1 rfl (w117 hw)) (w117 hw) (w116 hw) (by decide) z5 (w118 hw) (w43 hw) (rm111 l hw gCS a4 a5 z1 h0 W1.old z6 z5 z7 z8 z9 SgCS NgCS z10 z11) 0 0 0 (by decide) (by rw [hml]; rfl) (lenOf pd14 rfl) [] rfl rfl 26 (hb hy d39_23) rfl rfl rfl (allS ⟨z11, (Or.inl (List.mem_of_getElem? (i := 1) rfl))⟩ (allS ⟨z10, m0⟩ all0)) tri ?_
  intro v2 T2 h2 lo2 W2 K2 q2
  obtain ⟨P2_0, P2_1, P2_2, P2_3, rfl⟩ := q2.2.2
  show Gl _ _ _ _ _ _ _ _ [(.ref a4)]
  refine o_aloadN W2 27 (hb hy d39_26) rfl rfl rfl ?_
  have c3 := (z12.keep K2)
  have c4 := (z5.keep K2)
  have c5 := (z13.keep K2 (ninS (Exa.neArv z12 z8 (w2 hw)) (ninS (Exa.ne z12 z5 (by decide)) nin0)))
  have c6 := (z14.keep K2 (ninS (Ne.symm z15) (ninS (Ne.symm (Exa.neArv z5 z14 (w42 hw))) nin0)))
  have c7 := (z16.keep K2 (ninS (Exa.neArv z12 z8 (w2 hw)) (ninS (Exa.ne z12 z5 (by decide)) nin0)))
  refine o_virtualC W2 (w67 hw) (w68 hw) (o_nf W2 rfl (w70 hw)) (w70 hw) (w69 hw) (by decide) c4 (w71 hw) (w43 hw) (rm116 l hw gCS a4 a2 a6 z2 x1 a5 z1 h2 W2.old c3 c5 c6 SgCS NgCS c7 P2_0 c4 P2_1 P2_2 P2_3 z11 z10) 0 0 0 (by decide) (by rw [hml]; rfl) (lenOf pd10 rfl) [] rfl rfl 30 (hb hy d39_27) rfl rfl rfl (allS ⟨z10, m0⟩ (allS ⟨z11, (Or.inl (List.mem_of_getElem? (i := 1) rfl))⟩ all0)) tri ?_
  intro v8 T8 h8 lo8 W8 K8 q8
  obtain ⟨P8_0, P8_1, P8_2, P8_3, rfl⟩ := q8.2.2
  show Gl _ _ _ _ _ _ _ _ [(.ref a4)]
  refine o_pop W8 31 (hb hy d39_30) rfl rfl <| o_iconst W8 (v := 0) 32 (hb hy d39_31) rfl rfl <| o_istoreN W8 (L' := #[vr a1, vr a2, vr a3, vi 0]) 33 (hb hy d39_32) rfl rfl <| o_iloadN W8 34 (hb hy d39_33) rfl rfl <| o_aloadN W8 35 (hb hy d39_34) rfl rfl rfl ?_
  have c9 := (c4.keep K8)
  have c10 := (z3.keep K2 (ninS z17 (ninS (Ne.symm (Exa.neArv z5 z3 (w42 hw))) nin0)))
  have c11 := ((z3.keep K2 (ninS z17 (ninS (Ne.symm (Exa.neArv z5 z3 (w42 hw))) nin0))).keep K8 (ninS (Ne.symm (Exa.neArv c4 c10 (w42 hw))) (ninS z17 nin0)))
  refine o_len W8 c11 36 (hb hy d39_35) rfl <| o_icmpY W8 82 (hb hy d39_36) (XT.ii_ge_t (by decide)) (by decide) rfl <| o_aloadN W8 83 (hb hy d39_82) rfl rfl rfl ?_
  have c12 := ((z18.keep K2).keep K8)
  have c13 := (z18.keep K2)
  have c14 := ((z4.keep K2 (ninS (Exa.neArv z18 z8 (w35 hw)) (ninS (Exa.ne z18 z5 (by decide)) nin0))).keep K8 (ninS (Exa.ne c13 c4 (by decide)) (ninS (Exa.neArv c13 P2_2 (w35 hw)) nin0)))
  refine o_getF W8 (w59 hw) Via.refl c14 86 (hb hy d39_83) rfl ?_
  intro T15 W15
  refine o_bipush W15 (v := 62) 88 (hb hy d39_86) (by decide) rfl ?_
  refine o_virtualC W15 (w114 hw) (w115 hw) (o_nf W15 rfl (w117 hw)) (w117 hw) (w116 hw) (by decide) c9 (w118 hw) (w43 hw) (rm119 l hw gCS a4 a5 z1 (b8 x1) h8 W15.old P8_0 c9 P8_1 P8_2 P8_3 SgCS NgCS z10 z11) 0 0 0 (by decide) (by rw [hml]; rfl) (lenOf pd14 rfl) [] rfl rfl 91 (hb hy d39_88) rfl rfl rfl (allS ⟨z11, (Or.inl (List.mem_of_getElem? (i := 1) rfl))⟩ (allS ⟨z10, m0⟩ all0)) tri ?_
  intro v16 T16 h16 lo16 W16 K16 q16
  obtain ⟨P16_0, P16_1, P16_2, P16_3, rfl⟩ := q16.2.2
  show Gl _ _ _ _ _ _ _ _ [(.ref a4)]
  refine o_pop W16 92 (hb hy d39_91) rfl rfl <| o_aloadN W16 93 (hb hy d39_92) rfl rfl rfl ?_
  have c17 := (c9.keep K16)
  exact o_retA W16 hlk (v := (.ref a1)) hret rfl rfl (hb hy d39_93) (by decide) (by decide) ⟨P16_0, P16_1, P16_2, P16_3, rfl⟩
theorem rm121 (l : Launch) {Z a0} (hw : HW Z a0) (a1 a2 : Addr) (z0 : ClassId) (x1 : Int32) (h0 : Heap) (O0 : Old Z Z.heap.size h0) (z1 : Fld Z h0 a1 s1 "value" "[B" (.ref a2)) (z2 : Arv Z h0 a2 z0 .byte 16 [(.int 60), (.int x1), (.int 62), iZ, iZ, iZ, iZ, iZ, iZ, iZ, iZ, iZ, iZ, iZ, iZ, iZ] iZ) (z3 : Fld Z h0 a1 s1 "coder" "B" iZ) :
    CtrN l Z mn7 jdk_68_method_9_code 3 none [] (⟨0, 0, 0, 0⟩ : Room) #[(.ref a1), (.int 5)] h0 [] (fun v h => v = none) := by
  refine CtrN.intro (L0 := #[vr a1, vi 5, un]) (plainFor_of_name pn1) O0 (own_entry rfl) ?_
  intro p e s m below meth c T0 hy hml hret hlk hnm W0
  refine o_aloadN W0 1 (hb hy d15_0) rfl rfl rfl ?_
  refine o_getF W0 (w55 hw) Via.refl z1 4 (hb hy d15_1) rfl ?_
  intro T1 W1
  refine o_len W1 z2 5 (hb hy d15_4) rfl <| o_aloadN W1 6 (hb hy d15_5) rfl rfl rfl ?_
  refine o_getF W1 (w57 hw) Via.refl z3 9 (hb hy d15_6) rfl ?_
  intro T2 W2
  refine o_ishr W2 (v := 16) 10 (hb hy d15_9) (by decide) rfl <| o_istoreN W2 (L' := #[vr a1, vi 5, vi 16]) 11 (hb hy d15_10) rfl rfl <| o_iloadN W2 12 (hb hy d15_11) rfl rfl <| o_iloadN W2 13 (hb hy d15_12) rfl rfl <| o_isub W2 (v := (-11 : Int32)) 14 (hb hy d15_13) (by decide) rfl <| o_ifY W2 38 (hb hy d15_14) (XT.i0_le_t (by decide)) (by decide) rfl ?_
  exact o_ret0 W2 hlk hret (hb hy d15_38) (by decide) (by decide) rfl
theorem rm122 (l : Launch) {Z a0} (hw : HW Z a0) (gCS : Int32) (a1 a2 a3 : Addr) (z0 z1 : ClassId) (x1 : Int32) (h0 : Heap) (O0 : Old Z Z.heap.size h0) (z2 : Exa Z h0 a1 s0) (SgCS : Sta Z Z.heap s0 s3 "Z" (.int gCS)) (NgCS : ¬ (gCS = (0 : Int32))) (z3 : Fld Z h0 a1 s0 "coder" "B" iZ) (z4 : Fld Z h0 a1 s0 "value" "[B" (.ref a3)) (z5 : Arv Z h0 a3 z0 .byte 2 [(.int (b8 60)), (.int (b8 47))] iZ) (z6 : Arv Z h0 a2 z1 .byte 16 [(.int 60), (.int x1), (.int 62), iZ, iZ, iZ, iZ, iZ, iZ, iZ, iZ, iZ, iZ, iZ, iZ, iZ] iZ) (z7 : Z.heap.size ≤ a2) :
    CtrN l Z mn9 jdk_42_method_147_code 4 none [] (⟨1, 0, 0, 27⟩ : Room) #[(.ref a1), (.ref a2), (.int 3), iZ] h0 [a2] (fun v h => Arv Z h a2 z1 .byte 16 [(.int 60), (.int x1), (.int 62), (.int (b8 60)), (.int (b8 47)), iZ, iZ, iZ, iZ, iZ, iZ, iZ, iZ, iZ, iZ, iZ] iZ ∧ v = none) := by
  refine CtrN.intro (L0 := #[vr a1, vr a2, vi 3, vi 0]) (plainFor_of_name pn0) O0 (own_entry rfl) ?_
  intro p e s m below meth c T0 hy hml hret hlk hnm W0
  refine o_aloadN W0 1 (hb hy d18_0) rfl rfl rfl ?_
  refine o_virtualC W0 (w82 hw) (w83 hw) (o_nf W0 rfl (w85 hw)) (w85 hw) (w84 hw) (by decide) z2 (w86 hw) (w3 hw) (rm6 l hw gCS a1 h0 W0.old SgCS NgCS z3) 0 0 0 (by decide) (by rw [hml]; rfl) (lenOf pd4 rfl) [] rfl rfl 4 (hb hy d18_1) rfl rfl rfl all0 tri ?_
  intro v1 T1 h1 lo1 W1 K1 q1
  obtain rfl := q1.2.2
  show Gl _ _ _ _ _ _ _ _ [iZ]
  refine o_iloadN W1 5 (hb hy d18_4) rfl rfl <| o_icmpN W1 8 (hb hy d18_5) (XT.ii_ne_f (by decide)) rfl <| o_aloadN W1 9 (hb hy d18_8) rfl rfl rfl ?_
  have c2 := (z4.keep K1 nin0)
  refine o_getF W1 (w20 hw) Via.refl c2 12 (hb hy d18_9) rfl ?_
  intro T3 W3
  refine o_iconst W3 (v := 0) 13 (hb hy d18_12) rfl rfl <| o_aloadN W3 14 (hb hy d18_13) rfl rfl rfl <| o_iloadN W3 15 (hb hy d18_14) rfl rfl <| o_iloadN W3 16 (hb hy d18_15) rfl rfl <| o_ishl W3 (v := 3) 17 (hb hy d18_16) (by decide) rfl <| o_aloadN W3 18 (hb hy d18_17) rfl rfl rfl ?_
  refine o_getF W3 (w20 hw) Via.refl c2 21 (hb hy d18_18) rfl ?_
  intro T4 W4
  have c5 := (z5.keep K1 nin0)
  refine o_len W4 c5 22 (hb hy d18_21) rfl ?_
  have c6 := (z6.keep K1 nin0)
  refine o_copy W4 (w110 hw) (w113 hw) (w111 hw) (w112 hw) c5 c6 (us := [(.int (b8 60)), (.int (b8 47))]) (Or.inl ⟨rfl, rfl⟩) (by decide) (by decide) (by decide) (by decide) (by decide) rfl (Nat.le_of_ble_eq_true rfl) (vd' := [(.int 60), (.int x1), (.int 62), (.int (b8 60)), (.int (b8 47)), iZ, iZ, iZ, iZ, iZ, iZ, iZ, iZ, iZ, iZ, iZ]) rfl z7 m0 tri (by rw [hml]; rfl) 25 (hb hy d18_22) rfl (by decide) 0 (by exact Nat.le_of_eq rfl) (by decide) ?_
  intro T7 h7 lo7 W7 K7 V7
  refine o_goto W7 43 (hb hy d18_25) (by decide) rfl ?_
  exact o_ret0 W7 hlk hret (hb hy d18_43) (by decide) (by decide) ⟨V7, rfl⟩
theorem rm123 (l : Launch) {Z a0} (hw : HW Z a0) (gCS : Int32) (a1 a2 a3 a4 : Addr) (z0 z1 : ClassId) (x1 : Int32) (h0 : Heap) (O0 : Old Z Z.heap.size h0) (z2 : Exa Z h0 a1 s2) (SgCS : Sta Z Z.heap s0 s3 "Z" (.int gCS)) (NgCS : ¬ (gCS = (0 : Int32))) (z3 : Fld Z h0 a1 s1 "coder" "B" iZ) (z4 : Exa Z h0 a2 s0) (z5 : Fld Z h0 a2 s0 "coder" "B" iZ) (z6 : Fld Z h0 a1 s1 "value" "[B" (.ref a3)) (z7 : Fld Z h0 a2 s0 "value" "[B" (.ref a4)) (z8 : Arv Z h0 a4 z0 .byte 2 [(.int (b8 60)), (.int (b8 47))] iZ) (z9 : Arv Z h0 a3 z1 .byte 16 [(.int 60), (.int x1), (.int 62), iZ, iZ, iZ, iZ, iZ, iZ, iZ, iZ, iZ, iZ, iZ, iZ, iZ] iZ) (z10 : Z.heap.size ≤ a3) :
    CtrN l Z mn10 jdk_68_method_73_code 3 none [] (⟨2, 0, 0, 42⟩ : Room) #[(.ref a1), (.int 3), (.ref a2)] h0 [a3] (fun v h => Arv Z h a3 z1 .byte 16 [(.int 60), (.int x1), (.int 62), (.int (b8 60)), (.int (b8 47)), iZ, iZ, iZ, iZ, iZ, iZ, iZ, iZ, iZ, iZ, iZ] iZ ∧ v = none) := by
  refine CtrN.intro (L0 := #[vr a1, vi 3, vr a2]) (plainFor_of_name pn1) O0 (own_entry rfl) ?_
  intro p e s m below meth c T0 hy hml hret hlk hnm W0
  refine o_aloadN W0 1 (hb hy d16_0) rfl rfl rfl <| o_aloadN W0 2 (hb hy d16_1) rfl rfl rfl ?_
  refine o_privateC W0 (w99 hw) (w100 hw) (w102 hw) (w101 hw) (w103 hw) (by decide) z2 (w51 hw) (rm9 l hw gCS a1 a2 h0 W0.old SgCS NgCS z3 z4 z5) 0 0 0 (by decide) (by rw [hml]; rfl) (lenOf pd6 rfl) [] rfl rfl 5 (hb hy d16_2) rfl rfl rfl all0 tri ?_
  intro v1 T1 h1 lo1 W1 K1 q1
  obtain rfl := q1.2.2
  show Gl _ _ _ _ _ _ _ _ []
  refine o_aloadN W1 6 (hb hy d16_5) rfl rfl rfl <| o_aloadN W1 7 (hb hy d16_6) rfl rfl rfl ?_
  have c2 := (z6.keep K1 nin0)
  refine o_getF W1 (w55 hw) Via.refl c2 10 (hb hy d16_7) rfl ?_
  intro T3 W3
  refine o_iloadN W3 11 (hb hy d16_10) rfl rfl <| o_aloadN W3 12 (hb hy d16_11) rfl rfl rfl ?_
  have c4 := (z3.keep K1 nin0)
  refine o_getF W3 (w57 hw) Via.refl c4 15 (hb hy d16_12) rfl ?_
  intro T5 W5
  have c6 := (z5.keep K1 nin0)
  have c7 := (z7.keep K1 nin0)
  have c8 := (z8.keep K1 nin0)
  have c9 := (z9.keep K1 nin0)
  have c10 := (z4.keep K1)
  refine o_virtualC W5 (w105 hw) (w106 hw) (o_nf W5 rfl (w108 hw)) (w108 hw) (w107 hw) (by decide) c10 (w109 hw) (w3 hw) (rm122 l hw gCS a2 a3 a4 z0 z1 x1 h1 W5.old c10 SgCS NgCS c6 c7 c8 c9 z10) 0 0 0 (by decide) (by rw [hml]; rfl) (lenOf pd7 rfl) [] rfl rfl 18 (hb hy d16_15) rfl rfl rfl (allS ⟨z10, m0⟩ all0) tri ?_
  intro v11 T11 h11 lo11 W11 K11 q11
  obtain ⟨P11_0, rfl⟩ := q11.2.2
  show Gl _ _ _ _ _ _ _ _ []
  exact o_ret0 W11 hlk hret (hb hy d16_18) (by decide) (by decide) ⟨P11_0, rfl⟩
theorem rm124 (l : Launch) {Z a0} (hw : HW Z a0) (gCS : Int32) (a1 a2 a3 : Addr) (z0 : ClassId) (a4 : Addr) (z1 : ClassId) (x1 : Int32) (h0 : Heap) (O0 : Old Z Z.heap.size h0) (z2 : Exa Z h0 a2 s0) (z3 : Fld Z h0 a2 s0 "value" "[B" (.ref a3)) (z4 : Arv Z h0 a3 z0 .byte 2 [(.int (b8 60)), (.int (b8 47))] iZ) (SgCS : Sta Z Z.heap s0 s3 "Z" (.int gCS)) (NgCS : ¬ (gCS = (0 : Int32))) (z5 : Fld Z h0 a2 s0 "coder" "B" iZ) (z6 : Fld Z h0 a1 s1 "count" "I" (.int 3)) (z7 : Exa Z h0 a1 s2) (z8 : Fld Z h0 a1 s1 "value" "[B" (.ref a4)) (z9 : Arv Z h0 a4 z1 .byte 16 [(.int 60), (.int x1), (.int 62), iZ, iZ, iZ, iZ, iZ, iZ, iZ, iZ, iZ, iZ, iZ, iZ, iZ] iZ) (z10 : Fld Z h0 a1 s1 "coder" "B" iZ) (z11 : Z.heap.size ≤ a4) (z12 : Z.heap.size ≤ a1) :
    CtrN l Z mn11 jdk_68_method_22_code 3 (some (.object s1)) [] (⟨3, 0, 0, 56⟩ : Room) #[(.ref a1), (.ref a2)] h0 [a4, a1] (fun v h => Fld Z h a1 s1 "count" "I" (.int 5) ∧ Fld Z h a1 s1 "value" "[B" (.ref a4) ∧ Arv Z h a4 z1 .byte 16 [(.int 60), (.int x1), (.int 62), (.int (b8 60)), (.int (b8 47)), iZ, iZ, iZ, iZ, iZ, iZ, iZ, iZ, iZ, iZ, iZ] iZ ∧ Fld Z h a1 s1 "coder" "B" iZ ∧ v = some (.ref a1)) := by
  refine CtrN.intro (L0 := #[vr a1, vr a2, un]) (plainFor_of_name pn1) O0 (own_entry rfl) ?_
  intro p e s m below meth c T0 hy hml hret hlk hnm W0
  refine o_aloadN W0 1 (hb hy d12_0) rfl rfl rfl ?_
  refine o_ifnonnullY W0 9 (hb hy d12_1) (by decide) rfl ?_
  refine o_aloadN W0 10 (hb hy d12_9) rfl rfl rfl ?_
  refine o_virtualC W0 (w77 hw) (w78 hw) (o_nf W0 rfl (w80 hw)) (w80 hw) (w79 hw) (by decide) z2 (w81 hw) (w3 hw) (rm7 l hw gCS a2 a3 z0 h0 W0.old z3 z4 z2 SgCS NgCS z5) 0 0 0 (by decide) (by rw [hml]; rfl) (lenOf pd5 rfl) [] rfl rfl 13 (hb hy d12_10) rfl rfl rfl all0 tri ?_
  intro v1 T1 h1 lo1 W1 K1 q1
  obtain rfl := q1.2.2
  show Gl _ _ _ _ _ _ _ _ [(.int 2)]
  refine o_istoreN W1 (L' := #[vr a1, vr a2, vi 2]) 14 (hb hy d12_13) rfl rfl <| o_aloadN W1 15 (hb hy d12_14) rfl rfl rfl <| o_aloadN W1 16 (hb hy d12_15) rfl rfl rfl ?_
  have c2 := (z6.keep K1 nin0)
  refine o_getF W1 (w87 hw) Via.refl c2 19 (hb hy d12_16) rfl ?_
  intro T3 W3
  refine o_iloadN W3 20 (hb hy d12_19) rfl rfl <| o_iadd W3 (v := 5) 21 (hb hy d12_20) (by decide) rfl ?_
  have c4 := (z7.keep K1)
  have c5 := (z8.keep K1 nin0)
  have c6 := (z9.keep K1 nin0)
  have c7 := (z10.keep K1 nin0)
  refine o_privateC W3 (w89 hw) (w90 hw) (w92 hw) (w91 hw) (w93 hw) (by decide) c4 (w51 hw) (rm121 l hw a1 a4 z1 x1 h1 W3.old c5 c6 c7) 0 0 0 (by decide) (by rw [hml]; rfl) (lenOf pd2 rfl) [] rfl rfl 24 (hb hy d12_21) rfl rfl rfl all0 tri ?_
  intro v8 T8 h8 lo8 W8 K8 q8
  obtain rfl := q8.2.2
  show Gl _ _ _ _ _ _ _ _ []
  refine o_aloadN W8 25 (hb hy d12_24) rfl rfl rfl <| o_aloadN W8 26 (hb hy d12_25) rfl rfl rfl ?_
  have c9 := (c2.keep K8 nin0)
  refine o_getF W8 (w87 hw) Via.refl c9 29 (hb hy d12_26) rfl ?_
  intro T10 W10
  refine o_aloadN W10 30 (hb hy d12_29) rfl rfl rfl ?_
  have c11 := (c7.keep K8 nin0)
  have c12 := ((z5.keep K1 nin0).keep K8 nin0)
  have c13 := (c5.keep K8 nin0)
  have c14 := ((z3.keep K1 nin0).keep K8 nin0)
  have c15 := ((z4.keep K1 nin0).keep K8 nin0)
  have c16 := (c6.keep K8 nin0)
  have c17 := (c4.keep K8)
  have c18 := ((z2.keep K1).keep K8)
  refine o_privateC W10 (w94 hw) (w95 hw) (w97 hw) (w96 hw) (w98 hw) (by decide) c17 (w51 hw) (rm123 l hw gCS a1 a2 a4 a3 z0 z1 x1 h8 W10.old c17 SgCS NgCS c11 c18 c12 c13 c14 c15 c16 z11) 0 0 0 (by decide) (by rw [hml]; rfl) (lenOf pd8 rfl) [] rfl rfl 33 (hb hy d12_30) rfl rfl rfl (allS ⟨z11, m0⟩ all0) tri ?_
  intro v19 T19 h19 lo19 W19 K19 q19
  obtain ⟨P19_0, rfl⟩ := q19.2.2
  show Gl _ _ _ _ _ _ _ _ []
  refine o_aloadN W19 34 (hb hy d12_33) rfl rfl rfl <| o_dup W19 35 (hb hy d12_34) rfl rfl ?_
  have c20 := (c17.keep K19)
  have c21 := (c9.keep K19 (ninS (Exa.neArv c17 c16 (w42 hw)) nin0))
  refine o_getF W19 (w87 hw) Via.refl c21 38 (hb hy d12_35) rfl ?_
  intro T22 W22
  refine o_iloadN W22 39 (hb hy d12_38) rfl rfl <| o_iadd W22 (v := 5) 40 (hb hy d12_39) (by decide) rfl ?_
  refine o_putF W22 (w87 hw) Via.refl c21 c20 (Or.inl (w88 hw)) (w42 hw) (ty := .int) (v' := (.int 5)) (by decide) rfl rfl z12 (Or.inl (List.mem_of_getElem? (i := 1) rfl)) tri 43 (hb hy d12_40) rfl ?_
  intro T23 h23 lo23 W23 R23
  have F23 := c21.same R23
  refine o_aloadN W23 44 (hb hy d12_43) rfl rfl rfl ?_
  have c24 := (c20.wr R23)
  have c25 := ((c13.keep K19 (ninS (Exa.neArv c17 c16 (w42 hw)) nin0)).other R23 (Or.inr (slot_ne (Or.inl (w56 hw)) (Or.inl (w88 hw)) (by decide) (t := (.array .byte)) (t' := .int) (by decide) (by decide))))
  have c26 := ((c11.keep K19 (ninS (Exa.neArv c17 c16 (w42 hw)) nin0)).other R23 (Or.inr (slot_ne (Or.inl (w58 hw)) (Or.inl (w88 hw)) (by decide) (t := .byte) (t' := .int) (by decide) (by decide))))
  have c27 := (P19_0.other R23 (Ne.symm (Exa.neArv c20 P19_0 (w42 hw))))
  exact o_retA W23 hlk (v := (.ref a1)) hret rfl rfl (hb hy d12_44) (by decide) (by decide) ⟨F23, c25, c27, c26, rfl⟩
theorem rm125 (l : Launch) {Z a0} (hw : HW Z a0) (gCS : Int32) (a1 a2 a3 : Addr) (z0 : ClassId) (a4 : Addr) (z1 : ClassId) (x1 : Int32) (h0 : Heap) (O0 : Old Z Z.heap.size h0) (z2 : Exa Z h0 a2 s0) (z3 : Fld Z h0 a2 s0 "value" "[B" (.ref a3)) (z4 : Arv Z h0 a3 z0 .byte 2 [(.int (b8 60)), (.int (b8 47))] iZ) (SgCS : Sta Z Z.heap s0 s3 "Z" (.int gCS)) (NgCS : ¬ (gCS = (0 : Int32))) (z5 : Fld Z h0 a2 s0 "coder" "B" iZ) (z6 : Fld Z h0 a1 s1 "count" "I" (.int 3)) (z7 : Exa Z h0 a1 s2) (z8 : Fld Z h0 a1 s1 "value" "[B" (.ref a4)) (z9 : Arv Z h0 a4 z1 .byte 16 [(.int 60), (.int x1), (.int 62), iZ, iZ, iZ, iZ, iZ, iZ, iZ, iZ, iZ, iZ, iZ, iZ, iZ] iZ) (z10 : Fld Z h0 a1 s1 "coder" "B" iZ) (z11 : Z.heap.size ≤ a4) (z12 : Z.heap.size ≤ a1) :
    CtrN l Z mn12 jdk_67_method_7_code 2 (some (.object s2)) [] (⟨4, 0, 0, 70⟩ : Room) #[(.ref a1), (.ref a2)] h0 [a1, a4] (fun v h => Fld Z h a1 s1 "count" "I" (.int 5) ∧ Fld Z h a1 s1 "value" "[B" (.ref a4) ∧ Arv Z h a4 z1 .byte 16 [(.int 60), (.int x1), (.int 62), (.int (b8 60)), (.int (b8 47)), iZ, iZ, iZ, iZ, iZ, iZ, iZ, iZ, iZ, iZ, iZ] iZ ∧ Fld Z h a1 s1 "coder" "B" iZ ∧ v = some (.ref a1)) := by
  refine CtrN.intro (L0 := #[vr a1, vr a2]) (plainFor_of_name pn2) O0 (own_entry rfl) ?_
  intro p e s m below meth c T0 hy hml hret hlk hnm W0
  refine o_aloadN W0 1 (hb hy d11_0) rfl rfl rfl <| o_aloadN W0 2 (hb hy d11_1) rfl rfl rfl ?_
  refine o_superC W0 (by decide) (w72 hw) (w73 hw) (own_sameN (y := mn11) (y2 := mn7) (by decide) (w73 hw) rfl (w90 hw) (w92 hw)) (w74 hw) (w76 hw) (Ins.self z7) (w51 hw) (rm124 l hw gCS a1 a2 a3 z0 a4 z1 x1 h0 W0.old z2 z3 z4 SgCS NgCS z5 z6 z7 z8 z9 z10 z11 z12) 0 0 0 (by decide) (by rw [hml]; rfl) (lenOf pd9 rfl) [] rfl rfl 5 (hb hy d11_2) rfl rfl rfl (allS ⟨z11, (Or.inl (List.mem_of_getElem? (i := 1) rfl))⟩ (allS ⟨z12, m0⟩ all0)) tri ?_
  intro v1 T1 h1 lo1 W1 K1 q1
  obtain ⟨P1_0, P1_1, P1_2, P1_3, rfl⟩ := q1.2.2
  show Gl _ _ _ _ _ _ _ _ [(.ref a1)]
  refine o_pop W1 6 (hb hy d11_5) rfl rfl <| o_aloadN W1 7 (hb hy d11_6) rfl rfl rfl ?_
  have c2 := (z7.keep K1)
  exact o_retA W1 hlk (v := (.ref a1)) hret rfl rfl (hb hy d11_7) (by decide) (by decide) ⟨P1_0, P1_1, P1_2, P1_3, rfl⟩
theorem rm126 (l : Launch) {Z a0} (hw : HW Z a0) (a1 a2 : Addr) (z0 : ClassId) (x1 x2 x3 : Int32) (h0 : Heap) (O0 : Old Z Z.heap.size h0) (z1 : Fld Z h0 a1 s1 "value" "[B" (.ref a2)) (z2 : Arv Z h0 a2 z0 .byte 16 [(.int 60), (.int x1), (.int 62), (.int x2), (.int x3), iZ, iZ, iZ, iZ, iZ, iZ, iZ, iZ, iZ, iZ, iZ] iZ) (z3 : Fld Z h0 a1 s1 "coder" "B" iZ) :
    CtrN l Z mn7 jdk_68_method_9_code 3 none [] (⟨0, 0, 0, 0⟩ : Room) #[(.ref a1), (.int 5)] h0 [] (fun v h => v = none) := by
  refine CtrN.intro (L0 := #[vr a1, vi 5, un]) (plainFor_of_name pn1) O0 (own_entry rfl) ?_
  intro p e s m below meth c T0 hy hml hret hlk hnm W0
  refine o_aloadN W0 1 (hb hy d15_0) rfl rfl rfl ?_
  refine o_getF W0 (w55 hw) Via.refl z1 4 (hb hy d15_1) rfl ?_
  intro T1 W1
  refine o_len W1 z2 5 (hb hy d15_4) rfl <| o_aloadN W1 6 (hb hy d15_5) rfl rfl rfl ?_
  refine o_getF W1 (w57 hw) Via.refl z3 9 (hb hy d15_6) rfl ?_
  intro T2 W2
  refine o_ishr W2 (v := 16) 10 (hb hy d15_9) (by decide) rfl <| o_istoreN W2 (L' := #[vr a1, vi 5, vi 16]) 11 (hb hy d15_10) rfl rfl <| o_iloadN W2 12 (hb hy d15_11) rfl rfl <| o_iloadN W2 13 (hb hy d15_12) rfl rfl <| o_isub W2 (v := (-11 : Int32)) 14 (hb hy d15_13) (by decide) rfl <| o_ifY W2 38 (hb hy d15_14) (XT.i0_le_t (by decide)) (by decide) rfl ?_
  exact o_ret0 W2 hlk hret (hb hy d15_38) (by decide) (by decide) rfl
theorem rm127 (l : Launch) {Z a0} (hw : HW Z a0) (gCS : Int32) (a1 a2 a3 : Addr) (z0 z1 : ClassId) (x1 x2 x3 : Int32) (h0 : Heap) (O0 : Old Z Z.heap.size h0) (z2 : Exa Z h0 a1 s0) (SgCS : Sta Z Z.heap s0 s3 "Z" (.int gCS)) (NgCS : ¬ (gCS = (0 : Int32))) (z3 : Fld Z h0 a1 s0 "coder" "B" iZ) (z4 : Fld Z h0 a1 s0 "value" "[B" (.ref a3)) (z5 : Arv Z h0 a3 z0 .byte 0 [] iZ) (z6 : Arv Z h0 a2 z1 .byte 16 [(.int 60), (.int x1), (.int 62), (.int x2), (.int x3), iZ, iZ, iZ, iZ, iZ, iZ, iZ, iZ, iZ, iZ, iZ] iZ) (z7 : Z.heap.size ≤ a2) :
    CtrN l Z mn9 jdk_42_method_147_code 4 none [] (⟨1, 0, 0, 27⟩ : Room) #[(.ref a1), (.ref a2), (.int 5), iZ] h0 [a2] (fun v h => Arv Z h a2 z1 .byte 16 [(.int 60), (.int x1), (.int 62), (.int x2), (.int x3), iZ, iZ, iZ, iZ, iZ, iZ, iZ, iZ, iZ, iZ, iZ] iZ ∧ v = none) := by
  refine CtrN.intro (L0 := #[vr a1, vr a2, vi 5, vi 0]) (plainFor_of_name pn0) O0 (own_entry rfl) ?_
  intro p e s m below meth c T0 hy hml hret hlk hnm W0
  refine o_aloadN W0 1 (hb hy d18_0) rfl rfl rfl ?_
  refine o_virtualC W0 (w82 hw) (w83 hw) (o_nf W0 rfl (w85 hw)) (w85 hw) (w84 hw) (by decide) z2 (w86 hw) (w3 hw) (rm6 l hw gCS a1 h0 W0.old SgCS NgCS z3) 0 0 0 (by decide) (by rw [hml]; rfl) (lenOf pd4 rfl) [] rfl rfl 4 (hb hy d18_1) rfl rfl rfl all0 tri ?_
  intro v1 T1 h1 lo1 W1 K1 q1
  obtain rfl := q1.2.2
  show Gl _ _ _ _ _ _ _ _ [iZ]
  refine o_iloadN W1 5 (hb hy d18_4) rfl rfl <| o_icmpN W1 8 (hb hy d18_5) (XT.ii_ne_f (by decide)) rfl <| o_aloadN W1 9 (hb hy d18_8) rfl rfl rfl ?_
  have c2 := (z4.keep K1 nin0)
  refine o_getF W1 (w20 hw) Via.refl c2 12 (hb hy d18_9) rfl ?_
  intro T3 W3
  refine o_iconst W3 (v := 0) 13 (hb hy d18_12) rfl rfl <| o_aloadN W3 14 (hb hy d18_13) rfl rfl rfl <| o_iloadN W3 15 (hb hy d18_14) rfl rfl <| o_iloadN W3 16 (hb hy d18_15) rfl rfl <| o_ishl W3 (v := 5) 17 (hb hy d18_16) (by decide) rfl <| o_aloadN W3 18 (hb hy d18_17) rfl rfl rfl ?_
  refine o_getF W3 (w20 hw) Via.refl c2 21 (hb hy d18_18) rfl ?_
  intro T4 W4
  have c5 := (z5.keep K1 nin0)
  refine o_len W4 c5 22 (hb hy d18_21) rfl ?_
  have c6 := (z6.keep K1 nin0)
  refine o_copy W4 (w110 hw) (w113 hw) (w111 hw) (w112 hw) c5 c6 (us := []) (Or.inl ⟨rfl, rfl⟩) (by decide) (by decide) (by decide) (by decide) (by decide) rfl (Nat.le_of_ble_eq_true rfl) (vd' := [(.int 60), (.int x1), (.int 62), (.int x2), (.int x3), iZ, iZ, iZ, iZ, iZ, iZ, iZ, iZ, iZ, iZ, iZ]) rfl z7 m0 tri (by rw [hml]; rfl) 25 (hb hy d18_22) rfl (by decide) 0 (by exact Nat.le_of_eq rfl) (by decide) ?_
  intro T7 h7 lo7 W7 K7 V7
  refine o_goto W7 43 (hb hy d18_25) (by decide) rfl ?_
  exact o_ret0 W7 hlk hret (hb hy d18_43) (by decide) (by decide) ⟨V7, rfl⟩
theorem rm128 (l : Launch) {Z a0} (hw : HW Z a0) (gCS : Int32) (a1 a2 a3 a4 : Addr) (z0 z1 : ClassId) (x1 x2 x3 : Int32) (h0 : Heap) (O0 : Old Z Z.heap.size h0) (z2 : Exa Z h0 a1 s2) (SgCS : Sta Z Z.heap s0 s3 "Z" (.int gCS)) (NgCS : ¬ (gCS = (0 : Int32))) (z3 : Fld Z h0 a1 s1 "coder" "B" iZ) (z4 : Exa Z h0 a2 s0) (z5 : Fld Z h0 a2 s0 "coder" "B" iZ) (z6 : Fld Z h0 a1 s1 "value" "[B" (.ref a3)) (z7 : Fld Z h0 a2 s0 "value" "[B" (.ref a4)) (z8 : Arv Z h0 a4 z0 .byte 0 [] iZ) (z9 : Arv Z h0 a3 z1 .byte 16 [(.int 60), (.int x1), (.int 62), (.int x2), (.int x3), iZ, iZ, iZ, iZ, iZ, iZ, iZ, iZ, iZ, iZ, iZ] iZ) (z10 : Z.heap.size ≤ a3) :
    CtrN l Z mn10 jdk_68_method_73_code 3 none [] (⟨2, 0, 0, 42⟩ : Room) #[(.ref a1), (.int 5), (.ref a2)] h0 [a3] (fun v h => Arv Z h a3 z1 .byte 16 [(.int 60), (.int x1), (.int 62), (.int x2), (.int x3), iZ, iZ, iZ, iZ, iZ, iZ, iZ, iZ, iZ, iZ, iZ] iZ ∧ v = none) := by
  refine CtrN.intro (L0 := #[vr a1, vi 5, vr a2]) (plainFor_of_name pn1) O0 (own_entry rfl) ?_
  intro p e s m below meth c T0 hy hml hret hlk hnm W0
  refine o_aloadN W0 1 (hb hy d16_0) rfl rfl rfl <| o_aloadN W0 2 (hb hy d16_1) rfl rfl rfl ?_
  refine o_privateC W0 (w99 hw) (w100 hw) (w102 hw) (w101 hw) (w103 hw) (by decide) z2 (w51 hw) (rm9 l hw gCS a1 a2 h0 W0.old SgCS NgCS z3 z4 z5) 0 0 0 (by decide) (by rw [hml]; rfl) (lenOf pd6 rfl) [] rfl rfl 5 (hb hy d16_2) rfl rfl rfl all0 tri ?_
  intro v1 T1 h1 lo1 W1 K1 q1
  obtain rfl := q1.2.2
  show Gl _ _ _ _ _ _ _ _ []
  refine o_aloadN W1 6 (hb hy d16_5) rfl rfl rfl <| o_aloadN W1 7 (hb hy d16_6) rfl rfl rfl ?_
  have c2 := (z6.keep K1 nin0)
  refine o_getF W1 (w55 hw) Via.refl c2 10 (hb hy d16_7) rfl ?_
  intro T3 W3
  refine o_iloadN W3 11 (hb hy d16_10) rfl rfl <| o_aloadN W3 12 (hb hy d16_11) rfl rfl rfl ?_
  have c4 := (z3.keep K1 nin0)
  refine o_getF W3 (w57 hw) Via.refl c4 15 (hb hy d16_12) rfl ?_
  intro T5 W5
  have c6 := (z5.keep K1 nin0)
  have c7 := (z7.keep K1 nin0)
  have c8 := (z8.keep K1 nin0)
  have c9 := (z9.keep K1 nin0)
  have c10 := (z4.keep K1)
  refine o_virtualC W5 (w105 hw) (w106 hw) (o_nf W5 rfl (w108 hw)) (w108 hw) (w107 hw) (by decide) c10 (w109 hw) (w3 hw) (rm127 l hw gCS a2 a3 a4 z0 z1 x1 x2 x3 h1 W5.old c10 SgCS NgCS c6 c7 c8 c9 z10) 0 0 0 (by decide) (by rw [hml]; rfl) (lenOf pd7 rfl) [] rfl rfl 18 (hb hy d16_15) rfl rfl rfl (allS ⟨z10, m0⟩ all0) tri ?_
  intro v11 T11 h11 lo11 W11 K11 q11
  obtain ⟨P11_0, rfl⟩ := q11.2.2
  show Gl _ _ _ _ _ _ _ _ []
  exact o_ret0 W11 hlk hret (hb hy d16_18) (by decide) (by decide) ⟨P11_0, rfl⟩
theorem rm129 (l : Launch) {Z a0} (hw : HW Z a0) (gCS : Int32) (a1 a2 a3 : Addr) (z0 : ClassId) (a4 : Addr) (z1 : ClassId) (x1 x2 x3 : Int32) (h0 : Heap) (O0 : Old Z Z.heap.size h0) (z2 : Exa Z h0 a2 s0) (z3 : Fld Z h0 a2 s0 "value" "[B" (.ref a3)) (z4 : Arv Z h0 a3 z0 .byte 0 [] iZ) (SgCS : Sta Z Z.heap s0 s3 "Z" (.int gCS)) (NgCS : ¬ (gCS = (0 : Int32))) (z5 : Fld Z h0 a2 s0 "coder" "B" iZ) (z6 : Fld Z h0 a1 s1 "count" "I" (.int 5)) (z7 : Exa Z h0 a1 s2) (z8 : Fld Z h0 a1 s1 "value" "[B" (.ref a4)) (z9 : Arv Z h0 a4 z1 .byte 16 [(.int 60), (.int x1), (.int 62), (.int x2), (.int x3), iZ, iZ, iZ, iZ, iZ, iZ, iZ, iZ, iZ, iZ, iZ] iZ) (z10 : Fld Z h0 a1 s1 "coder" "B" iZ) (z11 : Z.heap.size ≤ a4) (z12 : Z.heap.size ≤ a1) :
    CtrN l Z mn11 jdk_68_method_22_code 3 (some (.object s1)) [] (⟨3, 0, 0, 56⟩ : Room) #[(.ref a1), (.ref a2)] h0 [a4, a1] (fun v h => Fld Z h a1 s1 "count" "I" (.int 5) ∧ Fld Z h a1 s1 "value" "[B" (.ref a4) ∧ Arv Z h a4 z1 .byte 16 [(.int 60), (.int x1), (.int 62), (.int x2), (.int x3), iZ, iZ, iZ, iZ, iZ, iZ, iZ, iZ, iZ, iZ, iZ] iZ ∧ Fld Z h a1 s1 "coder" "B" iZ ∧ v = some (.ref a1)) := by
  refine CtrN.intro (L0 := #[vr a1, vr a2, un]) (plainFor_of_name pn1) O0 (own_entry rfl) ?_
  intro p e s m below meth c T0 hy hml hret hlk hnm W0
  refine o_aloadN W0 1 (hb hy d12_0) rfl rfl rfl ?_
  refine o_ifnonnullY W0 9 (hb hy d12_1) (by decide) rfl ?_
  refine o_aloadN W0 10 (hb hy d12_9) rfl rfl rfl ?_
  refine o_virtualC W0 (w77 hw) (w78 hw) (o_nf W0 rfl (w80 hw)) (w80 hw) (w79 hw) (by decide) z2 (w81 hw) (w3 hw) (rm14 l hw gCS a2 a3 z0 h0 W0.old z3 z4 z2 SgCS NgCS z5) 0 0 0 (by decide) (by rw [hml]; rfl) (lenOf pd5 rfl) [] rfl rfl 13 (hb hy d12_10) rfl rfl rfl all0 tri ?_
  intro v1 T1 h1 lo1 W1 K1 q1
  obtain rfl := q1.2.2
  show Gl _ _ _ _ _ _ _ _ [iZ]
  refine o_istoreN W1 (L' := #[vr a1, vr a2, vi 0]) 14 (hb hy d12_13) rfl rfl <| o_aloadN W1 15 (hb hy d12_14) rfl rfl rfl <| o_aloadN W1 16 (hb hy d12_15) rfl rfl rfl ?_
  have c2 := (z6.keep K1 nin0)
  refine o_getF W1 (w87 hw) Via.refl c2 19 (hb hy d12_16) rfl ?_
  intro T3 W3
  refine o_iloadN W3 20 (hb hy d12_19) rfl rfl <| o_iadd W3 (v := 5) 21 (hb hy d12_20) (by decide) rfl ?_
  have c4 := (z7.keep K1)
  have c5 := (z8.keep K1 nin0)
  have c6 := (z9.keep K1 nin0)
  have c7 := (z10.keep K1 nin0)
  refine o_privateC W3 (w89 hw) (w90 hw) (w92 hw) (w91 hw) (w93 hw) (by decide) c4 (w51 hw) (rm126 l hw a1 a4 z1 x1 x2 x3 h1 W3.old c5 c6 c7) 0 0 0 (by decide) (by rw [hml]; rfl) (lenOf pd2 rfl) [] rfl rfl 24 (hb hy d12_21) rfl rfl rfl all0 tri ?_
  intro v8 T8 h8 lo8 W8 K8 q8
  obtain rfl := q8.2.2
  show Gl _ _ _ _ _ _ _ _ []
  refine o_aloadN W8 25 (hb hy d12_24) rfl rfl rfl <| o_aloadN W8 26 (hb hy d12_25) rfl rfl rfl ?_
  have c9 := (c2.keep K8 nin0)
  refine o_getF W8 (w87 hw) Via.refl c9 29 (hb hy d12_26) rfl ?_
  intro T10 W10
  refine o_aloadN W10 30 (hb hy d12_29) rfl rfl rfl ?_
  have c11 := (c7.keep K8 nin0)
  have c12 := ((z5.keep K1 nin0).keep K8 nin0)
  have c13 := (c5.keep K8 nin0)
  have c14 := ((z3.keep K1 nin0).keep K8 nin0)
  have c15 := ((z4.keep K1 nin0).keep K8 nin0)
  have c16 := (c6.keep K8 nin0)
  have c17 := (c4.keep K8)
  have c18 := ((z2.keep K1).keep K8)
  refine o_privateC W10 (w94 hw) (w95 hw) (w97 hw) (w96 hw) (w98 hw) (by decide) c17 (w51 hw) (rm128 l hw gCS a1 a2 a4 a3 z0 z1 x1 x2 x3 h8 W10.old c17 SgCS NgCS c11 c18 c12 c13 c14 c15 c16 z11) 0 0 0 (by decide) (by rw [hml]; rfl) (lenOf pd8 rfl) [] rfl rfl 33 (hb hy d12_30) rfl rfl rfl (allS ⟨z11, m0⟩ all0) tri ?_
  intro v19 T19 h19 lo19 W19 K19 q19
  obtain ⟨P19_0, rfl⟩ := q19.2.2
  show Gl _ _ _ _ _ _ _ _ []
  refine o_aloadN W19 34 (hb hy d12_33) rfl rfl rfl <| o_dup W19 35 (hb hy d12_34) rfl rfl ?_
  have c20 := (c17.keep K19)
  have c21 := (c9.keep K19 (ninS (Exa.neArv c17 c16 (w42 hw)) nin0))
  refine o_getF W19 (w87 hw) Via.refl c21 38 (hb hy d12_35) rfl ?_
  intro T22 W22
  refine o_iloadN W22 39 (hb hy d12_38) rfl rfl <| o_iadd W22 (v := 5) 40 (hb hy d12_39) (by decide) rfl ?_
  refine o_putF W22 (w87 hw) Via.refl c21 c20 (Or.inl (w88 hw)) (w42 hw) (ty := .int) (v' := (.int 5)) (by decide) rfl rfl z12 (Or.inl (List.mem_of_getElem? (i := 1) rfl)) tri 43 (hb hy d12_40) rfl ?_
  intro T23 h23 lo23 W23 R23
  have F23 := c21.same R23
  refine o_aloadN W23 44 (hb hy d12_43) rfl rfl rfl ?_
  have c24 := (c20.wr R23)
  have c25 := ((c13.keep K19 (ninS (Exa.neArv c17 c16 (w42 hw)) nin0)).other R23 (Or.inr (slot_ne (Or.inl (w56 hw)) (Or.inl (w88 hw)) (by decide) (t := (.array .byte)) (t' := .int) (by decide) (by decide))))
  have c26 := ((c11.keep K19 (ninS (Exa.neArv c17 c16 (w42 hw)) nin0)).other R23 (Or.inr (slot_ne (Or.inl (w58 hw)) (Or.inl (w88 hw)) (by decide) (t := .byte) (t' := .int) (by decide) (by decide))))
  have c27 := (P19_0.other R23 (Ne.symm (Exa.neArv c20 P19_0 (w42 hw))))
  exact o_retA W23 hlk (v := (.ref a1)) hret rfl rfl (hb hy d12_44) (by decide) (by decide) ⟨F23, c25, c27, c26, rfl⟩
theorem rm130 (l : Launch) {Z a0} (hw : HW Z a0) (gCS : Int32) (a1 a2 a3 : Addr) (z0 : ClassId) (a4 : Addr) (z1 : ClassId) (x1 x2 x3 : Int32) (h0 : Heap) (O0 : Old Z Z.heap.size h0) (z2 : Exa Z h0 a2 s0) (z3 : Fld Z h0 a2 s0 "value" "[B" (.ref a3)) (z4 : Arv Z h0 a3 z0 .byte 0 [] iZ) (SgCS : Sta Z Z.heap s0 s3 "Z" (.int gCS)) (NgCS : ¬ (gCS = (0 : Int32))) (z5 : Fld Z h0 a2 s0 "coder" "B" iZ) (z6 : Fld Z h0 a1 s1 "count" "I" (.int 5)) (z7 : Exa Z h0 a1 s2) (z8 : Fld Z h0 a1 s1 "value" "[B" (.ref a4)) (z9 : Arv Z h0 a4 z1 .byte 16 [(.int 60), (.int x1), (.int 62), (.int x2), (.int x3), iZ, iZ, iZ, iZ, iZ, iZ, iZ, iZ, iZ, iZ, iZ] iZ) (z10 : Fld Z h0 a1 s1 "coder" "B" iZ) (z11 : Z.heap.size ≤ a4) (z12 : Z.heap.size ≤ a1) :
    CtrN l Z mn12 jdk_67_method_7_code 2 (some (.object s2)) [] (⟨4, 0, 0, 70⟩ : Room) #[(.ref a1), (.ref a2)] h0 [a1, a4] (fun v h => Fld Z h a1 s1 "count" "I" (.int 5) ∧ Fld Z h a1 s1 "value" "[B" (.ref a4) ∧ Arv Z h a4 z1 .byte 16 [(.int 60), (.int x1), (.int 62), (.int x2), (.int x3), iZ, iZ, iZ, iZ, iZ, iZ, iZ, iZ, iZ, iZ, iZ] iZ ∧ Fld Z h a1 s1 "coder" "B" iZ ∧ v = some (.ref a1)) := by
  refine CtrN.intro (L0 := #[vr a1, vr a2]) (plainFor_of_name pn2) O0 (own_entry rfl) ?_
  intro p e s m below meth c T0 hy hml hret hlk hnm W0
  refine o_aloadN W0 1 (hb hy d11_0) rfl rfl rfl <| o_aloadN W0 2 (hb hy d11_1) rfl rfl rfl ?_
  refine o_superC W0 (by decide) (w72 hw) (w73 hw) (own_sameN (y := mn11) (y2 := mn7) (by decide) (w73 hw) rfl (w90 hw) (w92 hw)) (w74 hw) (w76 hw) (Ins.self z7) (w51 hw) (rm129 l hw gCS a1 a2 a3 z0 a4 z1 x1 x2 x3 h0 W0.old z2 z3 z4 SgCS NgCS z5 z6 z7 z8 z9 z10 z11 z12) 0 0 0 (by decide) (by rw [hml]; rfl) (lenOf pd9 rfl) [] rfl rfl 5 (hb hy d11_2) rfl rfl rfl (allS ⟨z11, (Or.inl (List.mem_of_getElem? (i := 1) rfl))⟩ (allS ⟨z12, m0⟩ all0)) tri ?_
  intro v1 T1 h1 lo1 W1 K1 q1
  obtain ⟨P1_0, P1_1, P1_2, P1_3, rfl⟩ := q1.2.2
  show Gl _ _ _ _ _ _ _ _ [(.ref a1)]
  refine o_pop W1 6 (hb hy d11_5) rfl rfl <| o_aloadN W1 7 (hb hy d11_6) rfl rfl rfl ?_
  have c2 := (z7.keep K1)
  exact o_retA W1 hlk (v := (.ref a1)) hret rfl rfl (hb hy d11_7) (by decide) (by decide) ⟨P1_0, P1_1, P1_2, P1_3, rfl⟩
theorem rm131 (l : Launch) {Z a0} (hw : HW Z a0) (a1 a2 : Addr) (z0 : ClassId) (x1 x2 x3 : Int32) (h0 : Heap) (O0 : Old Z Z.heap.size h0) (z1 : Fld Z h0 a1 s1 "value" "[B" (.ref a2)) (z2 : Arv Z h0 a2 z0 .byte 16 [(.int 60), (.int x1), (.int 62), (.int x2), (.int x3), iZ, iZ, iZ, iZ, iZ, iZ, iZ, iZ, iZ, iZ, iZ] iZ) (z3 : Fld Z h0 a1 s1 "coder" "B" iZ) :
    CtrN l Z mn7 jdk_68_method_9_code 3 none [] (⟨0, 0, 0, 0⟩ : Room) #[(.ref a1), (.int 6)] h0 [] (fun v h => v = none) := by
  refine CtrN.intro (L0 := #[vr a1, vi 6, un]) (plainFor_of_name pn1) O0 (own_entry rfl) ?_
  intro p e s m below meth c T0 hy hml hret hlk hnm W0
  refine o_aloadN W0 1 (hb hy d15_0) rfl rfl rfl ?_
  refine o_getF W0 (w55 hw) Via.refl z1 4 (hb hy d15_1) rfl ?_
  intro T1 W1
  refine o_len W1 z2 5 (hb hy d15_4) rfl <| o_aloadN W1 6 (hb hy d15_5) rfl rfl rfl ?_
  refine o_getF W1 (w57 hw) Via.refl z3 9 (hb hy d15_6) rfl ?_
  intro T2 W2
  refine o_ishr W2 (v := 16) 10 (hb hy d15_9) (by decide) rfl <| o_istoreN W2 (L' := #[vr a1, vi 6, vi 16]) 11 (hb hy d15_10) rfl rfl <| o_iloadN W2 12 (hb hy d15_11) rfl rfl <| o_iloadN W2 13 (hb hy d15_12) rfl rfl <| o_isub W2 (v := (-10 : Int32)) 14 (hb hy d15_13) (by decide) rfl <| o_ifY W2 38 (hb hy d15_14) (XT.i0_le_t (by decide)) (by decide) rfl ?_
  exact o_ret0 W2 hlk hret (hb hy d15_38) (by decide) (by decide) rfl
theorem rm132 (l : Launch) {Z a0} (hw : HW Z a0) (gCS : Int32) (a1 a2 : Addr) (z0 : ClassId) (x1 x2 x3 : Int32) (h0 : Heap) (O0 : Old Z Z.heap.size h0) (z1 : Fld Z h0 a1 s1 "count" "I" (.int 5)) (z2 : Exa Z h0 a1 s2) (z3 : Fld Z h0 a1 s1 "value" "[B" (.ref a2)) (z4 : Arv Z h0 a2 z0 .byte 16 [(.int 60), (.int x1), (.int 62), (.int x2), (.int x3), iZ, iZ, iZ, iZ, iZ, iZ, iZ, iZ, iZ, iZ, iZ] iZ) (z5 : Fld Z h0 a1 s1 "coder" "B" iZ) (SgCS : Sta Z Z.heap s0 s3 "Z" (.int gCS)) (NgCS : ¬ (gCS = (0 : Int32))) (z6 : Z.heap.size ≤ a1) (z7 : Z.heap.size ≤ a2) :
    CtrN l Z mn15 jdk_68_method_31_code 2 (some (.object s1)) [] (⟨1, 0, 0, 14⟩ : Room) #[(.ref a1), (.int 62)] h0 [a1, a2] (fun v h => Fld Z h a1 s1 "count" "I" (.int 6) ∧ Fld Z h a1 s1 "value" "[B" (.ref a2) ∧ Arv Z h a2 z0 .byte 16 [(.int 60), (.int x1), (.int 62), (.int x2), (.int x3), (.int 62), iZ, iZ, iZ, iZ, iZ, iZ, iZ, iZ, iZ, iZ] iZ ∧ Fld Z h a1 s1 "coder" "B" iZ ∧ v = some (.ref a1)) := by
  refine CtrN.intro (L0 := #[vr a1, vi 62]) (plainFor_of_name pn1) O0 (own_entry rfl) ?_
  intro p e s m below meth c T0 hy hml hret hlk hnm W0
  refine o_aloadN W0 1 (hb hy d20_0) rfl rfl rfl <| o_aloadN W0 2 (hb hy d20_1) rfl rfl rfl ?_
  refine o_getF W0 (w87 hw) Via.refl z1 5 (hb hy d20_2) rfl ?_
  intro T1 W1
  refine o_iconst W1 (v := 1) 6 (hb hy d20_5) rfl rfl <| o_iadd W1 (v := 6) 7 (hb hy d20_6) (by decide) rfl ?_
  refine o_privateC W1 (w89 hw) (w90 hw) (w92 hw) (w91 hw) (w93 hw) (by decide) z2 (w51 hw) (rm131 l hw a1 a2 z0 x1 x2 x3 h0 W1.old z3 z4 z5) 0 0 0 (by decide) (by rw [hml]; rfl) (lenOf pd2 rfl) [] rfl rfl 10 (hb hy d20_7) rfl rfl rfl all0 tri ?_
  intro v2 T2 h2 lo2 W2 K2 q2
  obtain rfl := q2.2.2
  show Gl _ _ _ _ _ _ _ _ []
  refine o_aloadN W2 11 (hb hy d20_10) rfl rfl rfl ?_
  have c3 := (z5.keep K2 nin0)
  have c4 := (z2.keep K2)
  refine o_virtualC W2 (w123 hw) (w124 hw) (o_nf W2 rfl (w126 hw)) (w126 hw) (w125 hw) (by decide) c4 (w127 hw) (w51 hw) (rm21 l hw gCS a1 h2 W2.old SgCS NgCS c3) 0 0 0 (by decide) (by rw [hml]; rfl) (lenOf pd11 rfl) [] rfl rfl 14 (hb hy d20_11) rfl rfl rfl all0 tri ?_
  intro v5 T5 h5 lo5 W5 K5 q5
  obtain rfl := q5.2.2
  show Gl _ _ _ _ _ _ _ _ [(.int 1)]
  refine o_ifN W5 17 (hb hy d20_14) (XT.i0_eq_f (by decide)) rfl <| o_iloadN W5 18 (hb hy d20_17) rfl rfl ?_
  refine o_staticC W5 (w128 hw) (w129 hw) (w130 hw) (w131 hw) (by decide) (rm22 l hw  h5 W5.old ) 0 0 0 (by decide) (by rw [hml]; rfl) (lenOf pd12 rfl) [] rfl rfl 21 (hb hy d20_18) rfl rfl rfl all0 tri ?_
  intro v6 T6 h6 lo6 W6 K6 q6
  obtain rfl := q6.2.2
  show Gl _ _ _ _ _ _ _ _ [(.int 1)]
  refine o_ifN W6 24 (hb hy d20_21) (XT.i0_eq_f (by decide)) rfl <| o_aloadN W6 25 (hb hy d20_24) rfl rfl rfl ?_
  have c7 := (((z3.keep K2 nin0).keep K5 nin0).keep K6 nin0)
  refine o_getF W6 (w55 hw) Via.refl c7 28 (hb hy d20_25) rfl ?_
  intro T8 W8
  refine o_aloadN W8 29 (hb hy d20_28) rfl rfl rfl <| o_dup W8 30 (hb hy d20_29) rfl rfl ?_
  have c9 := (((z1.keep K2 nin0).keep K5 nin0).keep K6 nin0)
  refine o_getF W8 (w87 hw) Via.refl c9 33 (hb hy d20_30) rfl ?_
  intro T10 W10
  refine o_dupX1 W10 34 (hb hy d20_33) rfl rfl rfl <| o_iconst W10 (v := 1) 35 (hb hy d20_34) rfl rfl <| o_iadd W10 (v := 6) 36 (hb hy d20_35) (by decide) rfl ?_
  have c11 := ((c4.keep K5).keep K6)
  refine o_putF W10 (w87 hw) Via.refl c9 c11 (Or.inl (w88 hw)) (w42 hw) (ty := .int) (v' := (.int 6)) (by decide) rfl rfl z6 m0 tri 39 (hb hy d20_36) rfl ?_
  intro T12 h12 lo12 W12 R12
  have F12 := c9.same R12
  refine o_iloadN W12 40 (hb hy d20_39) rfl rfl <| o_i2b W12 (v := 62) 41 (hb hy d20_40) (by decide) rfl ?_
  have c13 := (c11.wr R12)
  have c14 := (((z4.keep K2 nin0).keep K5 nin0).keep K6 nin0)
  have c15 := ((((z4.keep K2 nin0).keep K5 nin0).keep K6 nin0).other R12 (Ne.symm (Exa.neArv c11 c14 (w42 hw))))
  refine o_stB W12 c15 (i := 5) (x' := (62 : Int32)) (by decide) (by decide) (by decide) (Nat.lt_of_sub_eq_succ rfl) (by decide) (vs' := [(.int 60), (.int x1), (.int 62), (.int x2), (.int x3), (.int 62), iZ, iZ, iZ, iZ, iZ, iZ, iZ, iZ, iZ, iZ]) rfl z7 (Or.inl (List.mem_of_getElem? (i := 1) rfl)) tri 42 (hb hy d20_41) rfl ?_
  intro T16 h16 lo16 W16 R16 V16
  refine o_goto W16 75 (hb hy d20_42) (by decide) rfl <| o_aloadN W16 76 (hb hy d20_75) rfl rfl rfl ?_
  have c17 := (c13.wr R16)
  have c18 := (F12.other R16 (Or.inl (Exa.neArv c13 c15 (w42 hw))))
  have c19 := ((c7.other R12 (Or.inr (slot_ne (Or.inl (w56 hw)) (Or.inl (w88 hw)) (by decide) (t := (.array .byte)) (t' := .int) (by decide) (by decide)))).other R16 (Or.inl (Exa.neArv c13 c15 (w42 hw))))
  have c20 := ((((c3.keep K5 nin0).keep K6 nin0).other R12 (Or.inr (slot_ne (Or.inl (w58 hw)) (Or.inl (w88 hw)) (by decide) (t := .byte) (t' := .int) (by decide) (by decide)))).other R16 (Or.inl (Exa.neArv c13 c15 (w42 hw))))
  exact o_retA W16 hlk (v := (.ref a1)) hret rfl rfl (hb hy d20_76) (by decide) (by decide) ⟨c18, c19, V16, c20, rfl⟩
theorem rm133 (l : Launch) {Z a0} (hw : HW Z a0) (gCS : Int32) (a1 a2 : Addr) (z0 : ClassId) (x1 x2 x3 : Int32) (h0 : Heap) (O0 : Old Z Z.heap.size h0) (z1 : Fld Z h0 a1 s1 "count" "I" (.int 5)) (z2 : Exa Z h0 a1 s2) (z3 : Fld Z h0 a1 s1 "value" "[B" (.ref a2)) (z4 : Arv Z h0 a2 z0 .byte 16 [(.int 60), (.int x1), (.int 62), (.int x2), (.int x3), iZ, iZ, iZ, iZ, iZ, iZ, iZ, iZ, iZ, iZ, iZ] iZ) (z5 : Fld Z h0 a1 s1 "coder" "B" iZ) (SgCS : Sta Z Z.heap s0 s3 "Z" (.int gCS)) (NgCS : ¬ (gCS = (0 : Int32))) (z6 : Z.heap.size ≤ a1) (z7 : Z.heap.size ≤ a2) :
    CtrN l Z mn16 jdk_67_method_14_code 2 (some (.object s2)) [] (⟨2, 0, 0, 27⟩ : Room) #[(.ref a1), (.int 62)] h0 [a2, a1] (fun v h => Fld Z h a1 s1 "count" "I" (.int 6) ∧ Fld Z h a1 s1 "value" "[B" (.ref a2) ∧ Arv Z h a2 z0 .byte 16 [(.int 60), (.int x1), (.int 62), (.int x2), (.int x3), (.int 62), iZ, iZ, iZ, iZ, iZ, iZ, iZ, iZ, iZ, iZ] iZ ∧ Fld Z h a1 s1 "coder" "B" iZ ∧ v = some (.ref a1)) := by
  refine CtrN.intro (L0 := #[vr a1, vi 62]) (plainFor_of_name pn2) O0 (own_entry rfl) ?_
  intro p e s m below meth c T0 hy hml hret hlk hnm W0
  refine o_aloadN W0 1 (hb hy d19_0) rfl rfl rfl <| o_iloadN W0 2 (hb hy d19_1) rfl rfl ?_
  refine o_superC W0 (by decide) (w119 hw) (w120 hw) (own_sameN (y := mn15) (y2 := mn7) (by decide) (w120 hw) rfl (w90 hw) (w92 hw)) (w74 hw) (w122 hw) (Ins.self z2) (w51 hw) (rm132 l hw gCS a1 a2 z0 x1 x2 x3 h0 W0.old z1 z2 z3 z4 z5 SgCS NgCS z6 z7) 0 0 0 (by decide) (by rw [hml]; rfl) (lenOf pd13 rfl) [] rfl rfl 5 (hb hy d19_2) rfl rfl rfl (allS ⟨z6, (Or.inl (List.mem_of_getElem? (i := 1) rfl))⟩ (allS ⟨z7, m0⟩ all0)) tri ?_
  intro v1 T1 h1 lo1 W1 K1 q1
  obtain ⟨P1_0, P1_1, P1_2, P1_3, rfl⟩ := q1.2.2
  show Gl _ _ _ _ _ _ _ _ [(.ref a1)]
  refine o_pop W1 6 (hb hy d19_5) rfl rfl <| o_aloadN W1 7 (hb hy d19_6) rfl rfl rfl ?_
  have c2 := (z2.keep K1)
  exact o_retA W1 hlk (v := (.ref a1)) hret rfl rfl (hb hy d19_7) (by decide) (by decide) ⟨P1_0, P1_1, P1_2, P1_3, rfl⟩
theorem rm134 (l : Launch) {Z a0} (hw : HW Z a0) (gCS : Int32) (a1 a2 a3 a4 : Addr) (z0 : ClassId) (x1 : Int32) (a5 : Addr) (z1 : ClassId) (h0 : Heap) (O0 : Old Z Z.heap.size h0) (z2 : Fld Z h0 a1 s4 "out" s5 (.ref a3)) (z3 : Exa Z h0 a3 s2) (SgCS : Sta Z Z.heap s0 s3 "Z" (.int gCS)) (NgCS : ¬ (gCS = (0 : Int32))) (z4 : Fld Z h0 a3 s1 "count" "I" (.int 3)) (z5 : Fld Z h0 a3 s1 "value" "[B" (.ref a4)) (z6 : Arv Z h0 a4 z0 .byte 16 [(.int 60), (.int x1), (.int 62), iZ, iZ, iZ, iZ, iZ, iZ, iZ, iZ, iZ, iZ, iZ, iZ, iZ] iZ) (z7 : Fld Z h0 a3 s1 "coder" "B" iZ) (z8 : Z.heap.size ≤ a4) (z9 : Z.heap.size ≤ a3) (z10 : Exa Z h0 a2 s0) (z11 : Fld Z h0 a2 s0 "value" "[B" (.ref a5)) (z12 : Arv Z h0 a5 z1 .byte 0 [] iZ) (z13 : a4 ≠ a5) (z14 : Fld Z h0 a2 s0 "coder" "B" iZ) :
    CtrW l Z consts_1 mn17 prog_5_method_3_code 2 (some (.object s4)) [] (⟨5, 2, 12, 83⟩ : Room) #[(.ref a1), (.ref a2)] h0 [a4, a3] (fun v h => Fld Z h a3 s1 "count" "I" (.int 6) ∧ Fld Z h a3 s1 "value" "[B" (.ref a4) ∧ Arv Z h a4 z0 .byte 16 [(.int 60), (.int x1), (.int 62), (.int (b8 60)), (.int (b8 47)), (.int 62), iZ, iZ, iZ, iZ, iZ, iZ, iZ, iZ, iZ, iZ] iZ ∧ Fld Z h a3 s1 "coder" "B" iZ ∧ v = some (.ref a1)) := by
  refine CtrW.intro (L0 := #[vr a1, vr a2]) (plainFor_of_name pn3) O0 (own_entry rfl) ?_
  intro p e s m below meth c T0 V0 hy hml hret hlk hnm W0
  refine o_aloadN W0 1 (hb hy d10_0) rfl rfl rfl ?_
  refine o_getF W0 (w59 hw) Via.refl z2 4 (hb hy d10_1) rfl ?_
  intro T1 W1
  refine o_ldcR W1 (w66 hw) (own_wS hw) (own_EL hw) (by simp [consts_1]) 6 (hb hy d10_4) rfl (n := 8) (by decide) (by decide) (cells' := 2) (slots' := 12) rfl rfl (by decide) (by decide) (vs := [(.int (b8 60)), (.int (b8 47))]) (z := (2 : Int32)) ⟨by decide, by decide⟩ (by decide) (by decide) ?_
  intro s2 T2 h2 V2 t2 k2 W2 E2 C2 X2 Fc2 Fv2 A2 ns2
  have c3 := (z3.ext E2)
  have c4 := (z4.ext E2)
  have c5 := (z5.ext E2)
  have c6 := (z6.ext E2)
  have c7 := (z7.ext E2)
  refine o_virtualC W2 (w67 hw) (w68 hw) (o_nf W2 rfl (w70 hw)) (w70 hw) (w69 hw) (by decide) c3 (w71 hw) (w43 hw) (rm125 l hw gCS a3 s2 t2 k2 a4 z0 x1 h2 W2.old X2 Fv2 A2 SgCS NgCS Fc2 c4 c3 c5 c6 c7 z8 z9) 0 2 12 (by decide) (by rw [hml]; rfl) (lenOf pd10 rfl) [] rfl rfl 9 (hb hy d10_6) rfl rfl rfl (allS ⟨z9, (Or.inl (List.mem_of_getElem? (i := 1) rfl))⟩ (allS ⟨z8, m0⟩ all0)) (fun _ K => IW.keep K (sfS (Safe.exa W2.al c3 (by decide) (by decide)) (sfS (own_safeB W2.2.2.2.1 (n := 16) (by decide) (own_EL16 hw) c6) sf0)) W2.inv) ?_
  intro v8 T8 h8 lo8 W8 K8 q8
  obtain ⟨P8_0, P8_1, P8_2, P8_3, rfl⟩ := q8.2.2
  show Gl _ _ _ _ _ _ _ _ [(.ref a3)]
  refine o_aloadN W8 10 (hb hy d10_9) rfl rfl rfl ?_
  have c9 := ((z10.ext E2).keep K8)
  have c10 := (z10.ext E2)
  have c11 := (c3.keep K8)
  have c12 := ((z11.ext E2).keep K8 (ninS (Exa.ne c10 c3 (by decide)) (ninS (Exa.neArv c10 c6 (w2 hw)) nin0)))
  have c13 := (z12.ext E2)
  have c14 := ((z12.ext E2).keep K8 (ninS (Ne.symm (Exa.neArv c3 c13 (w42 hw))) (ninS (Ne.symm z13) nin0)))
  have c15 := ((z14.ext E2).keep K8 (ninS (Exa.ne c10 c3 (by decide)) (ninS (Exa.neArv c10 c6 (w2 hw)) nin0)))
  refine o_virtualC W8 (w67 hw) (w68 hw) (o_nf W8 rfl (w70 hw)) (w70 hw) (w69 hw) (by decide) c11 (w71 hw) (w43 hw) (rm130 l hw gCS a3 a2 a5 z1 a4 z0 x1 (b8 60) (b8 47) h8 W8.old c9 c12 c14 SgCS NgCS c15 P8_0 c11 P8_1 P8_2 P8_3 z8 z9) 0 2 12 (by decide) (by rw [hml]; rfl) (lenOf pd10 rfl) [] rfl rfl 13 (hb hy d10_10) rfl rfl rfl (allS ⟨z9, (Or.inl (List.mem_of_getElem? (i := 1) rfl))⟩ (allS ⟨z8, m0⟩ all0)) (fun _ K => IW.keep K (sfS (Safe.exa W8.al c11 (by decide) (by decide)) (sfS (own_safeB W8.2.2.2.1 (n := 16) (by decide) (own_EL16 hw) P8_2) sf0)) W8.inv) ?_
  intro v16 T16 h16 lo16 W16 K16 q16
  obtain ⟨P16_0, P16_1, P16_2, P16_3, rfl⟩ := q16.2.2
  show Gl _ _ _ _ _ _ _ _ [(.ref a3)]
  refine o_bipush W16 (v := 62) 15 (hb hy d10_13) (by decide) rfl ?_
  have c17 := (c11.keep K16)
  refine o_virtualC W16 (w114 hw) (w115 hw) (o_nf W16 rfl (w117 hw)) (w117 hw) (w116 hw) (by decide) c17 (w118 hw) (w43 hw) (rm133 l hw gCS a3 a4 z0 x1 (b8 60) (b8 47) h16 W16.old P16_0 c17 P16_1 P16_2 P16_3 SgCS NgCS z9 z8) 0 2 12 (by decide) (by rw [hml]; rfl) (lenOf pd14 rfl) [] rfl rfl 18 (hb hy d10_15) rfl rfl rfl (allS ⟨z8, m0⟩ (allS ⟨z9, (Or.inl (List.mem_of_getElem? (i := 1) rfl))⟩ all0)) (fun _ K => IW.keep K (sfS (own_safeB W16.2.2.2.1 (n := 16) (by decide) (own_EL16 hw) P16_2) (sfS (Safe.exa W16.al c17 (by decide) (by decide)) sf0)) W16.inv) ?_
  intro v18 T18 h18 lo18 W18 K18 q18
  obtain ⟨P18_0, P18_1, P18_2, P18_3, rfl⟩ := q18.2.2
  show Gl _ _ _ _ _ _ _ _ [(.ref a3)]
  refine o_pop W18 19 (hb hy d10_18) rfl rfl <| o_aloadN W18 20 (hb hy d10_19) rfl rfl rfl ?_
  have c19 := (c17.keep K18)
  exact o_retAW W18 (own_EL hw) hlk (v := (.ref a1)) hret rfl rfl (hb hy d10_20) (by decide) (by decide) ⟨P18_0, P18_1, P18_2, P18_3, rfl⟩
theorem rm135 (l : Launch) {Z a0} (hw : HW Z a0) (a1 : Addr) (z0 : ClassId) (x1 x2 x3 : Int32) (h0 : Heap) (O0 : Old Z Z.heap.size h0) (z1 : Arv Z h0 a1 z0 .byte 16 [(.int 60), (.int x1), (.int 62), (.int x2), (.int x3), (.int 62), iZ, iZ, iZ, iZ, iZ, iZ, iZ, iZ, iZ, iZ] iZ) :
    CtrN l Z mn23 jdk_65_method_133_code 5 (some (.array .byte)) [] (⟨1, 1, 6, 27⟩ : Room) #[(.ref a1), iZ, (.int 6)] h0 [] (fun v h => ∃ r1 : Addr, ∃ r2 : ClassId, h0.size ≤ r1 ∧ Arv Z h r1 r2 .byte 6 [(.int 60), (.int x1), (.int 62), (.int x2), (.int x3), (.int 62)] iZ ∧ v = some (.ref r1)) := by
  refine CtrN.intro (L0 := #[vr a1, vi 0, vi 6, un, un]) (plainFor_of_name pn5) O0 (own_entry rfl) ?_
  intro p e s m below meth c T0 hy hml hret hlk hnm W0
  refine o_iloadN W0 1 (hb hy d31_0) rfl rfl <| o_iloadN W0 2 (hb hy d31_1) rfl rfl ?_
  refine o_staticC W0 (w170 hw) (w171 hw) (w165 hw) (w172 hw) (by decide) (rm94 l hw  h0 W0.old ) 0 0 0 (by decide) (by rw [hml]; rfl) (lenOf pd17 rfl) [] rfl rfl 5 (hb hy d31_2) rfl rfl rfl all0 tri ?_
  intro v1 T1 h1 lo1 W1 K1 q1
  obtain rfl := q1.2.2
  show Gl _ _ _ _ _ _ _ _ []
  refine o_iloadN W1 6 (hb hy d31_5) rfl rfl <| o_iloadN W1 7 (hb hy d31_6) rfl rfl <| o_isub W1 (v := 6) 8 (hb hy d31_7) (by decide) rfl <| o_istoreN W1 (L' := #[vr a1, vi 0, vi 6, vi 6, un]) 9 (hb hy d31_8) rfl rfl <| o_iloadN W1 10 (hb hy d31_9) rfl rfl ?_
  refine o_newP W1 (aty := .byte) (w15 hw) tri (by decide) (cap := 6) (by decide) (by decide) 12 (hb hy d31_10) rfl (cells' := 1) (slots' := 6) rfl rfl (by decide) (by decide) (vs := [iZ, iZ, iZ, iZ, iZ, iZ]) (dv := iZ) rfl rfl ?_
  intro b2 T2 h2 k2 W2 E2 ge2 gz2 gb2 V2
  refine o_astore W2 (L' := #[vr a1, vi 0, vi 6, vi 6, vr b2]) 14 (hb hy d31_12) rfl rfl rfl <| o_aloadN W2 15 (hb hy d31_14) rfl rfl rfl <| o_iloadN W2 16 (hb hy d31_15) rfl rfl <| o_aload W2 18 (hb hy d31_16) rfl rfl rfl <| o_iconst W2 (v := 0) 19 (hb hy d31_18) rfl rfl <| o_aloadN W2 20 (hb hy d31_19) rfl rfl rfl ?_
  have c3 := ((z1.keep K1 nin0).ext E2)
  refine o_len W2 c3 21 (hb hy d31_20) rfl <| o_iloadN W2 22 (hb hy d31_21) rfl rfl <| o_isub W2 (v := 16) 23 (hb hy d31_22) (by decide) rfl <| o_iloadN W2 24 (hb hy d31_23) rfl rfl ?_
  refine o_staticC W2 (w173 hw) (w174 hw) (w175 hw) (w176 hw) (by decide) (rm95 l hw  h2 W2.old ) 4 1 6 (by decide) (by rw [hml]; rfl) (lenOf pd18 rfl) [iZ, (.ref b2), iZ, (.ref a1)] rfl rfl 27 (hb hy d31_24) rfl rfl rfl all0 tri ?_
  intro v4 T4 h4 lo4 W4 K4 q4
  obtain rfl := q4.2.2
  show Gl _ _ _ _ _ _ _ _ [(.int 6), iZ, (.ref b2), iZ, (.ref a1)]
  have c5 := (c3.keep K4 nin0)
  have c6 := (V2.keep K4 nin0)
  refine o_copy W4 (w177 hw) (w113 hw) (w111 hw) (w112 hw) c5 c6 (us := [(.int 60), (.int x1), (.int 62), (.int x2), (.int x3), (.int 62)]) (Or.inl ⟨rfl, rfl⟩) (by decide) (by decide) (by decide) (by decide) (by decide) rfl (Nat.le_of_ble_eq_true rfl) (vd' := [(.int 60), (.int x1), (.int 62), (.int x2), (.int x3), (.int 62)]) rfl gz2 (Or.inr gb2) tri (by rw [hml]; rfl) 30 (hb hy d31_27) rfl (by decide) 0 (by exact Nat.le_of_eq rfl) (by decide) ?_
  intro T7 h7 lo7 W7 K7 V7
  refine o_aload W7 32 (hb hy d31_30) rfl rfl rfl ?_
  exact o_retA W7 hlk (v := (.ref b2)) hret rfl rfl (hb hy d31_32) (by decide) (by decide) ⟨b2, k2, gb2, V7, rfl⟩
theorem rm136 (l : Launch) {Z a0} (hw : HW Z a0) (a1 : Addr) (z0 : ClassId) (x1 x2 x3 : Int32) (h0 : Heap) (O0 : Old Z Z.heap.size h0) (z1 : Arv Z h0 a1 z0 .byte 16 [(.int 60), (.int x1), (.int 62), (.int x2), (.int x3), (.int 62), iZ, iZ, iZ, iZ, iZ, iZ, iZ, iZ, iZ, iZ] iZ) :
    CtrN l Z mn24 jdk_65_method_132_code 3 (some (.array .byte)) [] (⟨2, 1, 6, 43⟩ : Room) #[(.ref a1), iZ, (.int 6)] h0 [] (fun v h => ∃ r1 : Addr, ∃ r2 : ClassId, h0.size ≤ r1 ∧ Arv Z h r1 r2 .byte 6 [(.int 60), (.int x1), (.int 62), (.int x2), (.int x3), (.int 62)] iZ ∧ v = some (.ref r1)) := by
  refine CtrN.intro (L0 := #[vr a1, vi 0, vi 6]) (plainFor_of_name pn5) O0 (own_entry rfl) ?_
  intro p e s m below meth c T0 hy hml hret hlk hnm W0
  refine o_iloadN W0 1 (hb hy d30_0) rfl rfl <| o_ifN W0 4 (hb hy d30_1) (XT.i0_ne_f (by decide)) rfl <| o_iloadN W0 5 (hb hy d30_4) rfl rfl <| o_aloadN W0 6 (hb hy d30_5) rfl rfl rfl <| o_len W0 z1 7 (hb hy d30_6) rfl <| o_icmpN W0 10 (hb hy d30_7) (XT.ii_eq_f (by decide)) rfl ?_
  refine o_aloadN W0 11 (hb hy d30_10) rfl rfl rfl <| o_iloadN W0 12 (hb hy d30_11) rfl rfl <| o_iloadN W0 13 (hb hy d30_12) rfl rfl ?_
  refine o_staticC W0 (w167 hw) (w168 hw) (w165 hw) (w169 hw) (by decide) (rm135 l hw a1 z0 x1 x2 x3 h0 W0.old z1) 0 1 6 (by decide) (by rw [hml]; rfl) (lenOf pd19 rfl) [] rfl rfl 16 (hb hy d30_13) rfl rfl rfl all0 tri ?_
  intro v1 T1 h1 lo1 W1 K1 q1
  obtain ⟨r1_1, r2_1, P1_0, P1_1, rfl⟩ := q1.2.2
  show Gl _ _ _ _ _ _ _ _ [(.ref r1_1)]
  exact o_retA W1 hlk (v := (.ref r1_1)) hret rfl rfl (hb hy d30_16) (by decide) (by decide) ⟨r1_1, r2_1, (Nat.le_trans W0.keep.1 P1_0), P1_1, rfl⟩
theorem rm137 (l : Launch) {Z a0} (hw : HW Z a0) (gCS : Int32) (a1 a2 a3 : Addr) (z0 : ClassId) (x1 x2 x3 : Int32) (h0 : Heap) (O0 : Old Z Z.heap.size h0) (z1 : Exa Z h0 a2 s2) (z2 : Fld Z h0 a2 s1 "value" "[B" (.ref a3)) (z3 : Fld Z h0 a2 s1 "count" "I" (.int 6)) (SgCS : Sta Z Z.heap s0 s3 "Z" (.int gCS)) (NgCS : ¬ (gCS = (0 : Int32))) (z4 : Fld Z h0 a2 s1 "coder" "B" iZ) (z5 : Exa Z h0 a1 s0) (z6 : Fld Z h0 a1 s0 "coder" "B" iZ) (z7 : Z.heap.size ≤ a1) (z8 : Arv Z h0 a3 z0 .byte 16 [(.int 60), (.int x1), (.int 62), (.int x2), (.int x3), (.int 62), iZ, iZ, iZ, iZ, iZ, iZ, iZ, iZ, iZ, iZ] iZ) (z9 : Fld Z h0 a1 s0 "value" "[B" .null) :
    CtrN l Z mn25 jdk_42_method_150_code 5 none [] (⟨3, 1, 6, 58⟩ : Room) #[(.ref a1), (.ref a2), .null] h0 [a1] (fun v h => ∃ r1 : Addr, ∃ r2 : ClassId, h0.size ≤ r1 ∧ Fld Z h a1 s0 "coder" "B" iZ ∧ Fld Z h a1 s0 "value" "[B" (.ref r1) ∧ Arv Z h r1 r2 .byte 6 [(.int 60), (.int x1), (.int 62), (.int x2), (.int x3), (.int 62)] iZ ∧ v = none) := by
  refine CtrN.intro (L0 := #[vr a1, vr a2, .val .null, un, un]) (plainFor_of_name pn0) O0 (own_entry rfl) ?_
  intro p e s m below meth c T0 hy hml hret hlk hnm W0
  refine o_aloadN W0 1 (hb hy d26_0) rfl rfl rfl ?_
  refine o_initO W0 (w11 hw) (w12 hw) (w13 hw) (by rw [hml]; rfl) 4 (hb hy d26_1) rfl (by decide) 0 (by exact Nat.le_of_eq rfl) (by decide) ?_
  intro T1 W1
  refine o_aloadN W1 5 (hb hy d26_4) rfl rfl rfl ?_
  refine o_virtualC W1 (w149 hw) (w150 hw) (o_nf W1 rfl (w152 hw)) (w152 hw) (w151 hw) (by decide) z1 (w153 hw) (w51 hw) (rm26 l hw a2 a3 h0 W1.old z2) 0 0 0 (by decide) (by rw [hml]; rfl) (lenOf pd16 rfl) [] rfl rfl 8 (hb hy d26_5) rfl rfl rfl all0 tri ?_
  intro v2 T2 h2 lo2 W2 K2 q2
  obtain rfl := q2.2.2
  show Gl _ _ _ _ _ _ _ _ [(.ref a3)]
  refine o_astoreN W2 (L' := #[vr a1, vr a2, .val .null, vr a3, un]) 9 (hb hy d26_8) rfl rfl rfl <| o_aloadN W2 10 (hb hy d26_9) rfl rfl rfl ?_
  have c3 := (z3.keep K2 nin0)
  have c4 := (z1.keep K2)
  refine o_virtualC W2 (w154 hw) (w155 hw) (o_nf2 W2 (y2 := mn7) rfl (w90 hw) (w92 hw)) (w157 hw) (w158 hw) (by decide) c4 (w159 hw) (w43 hw) (rm93 l hw a2 h2 W2.old c3 c4) 0 0 0 (by decide) (by rw [hml]; rfl) (lenOf pd5 rfl) [] rfl rfl 13 (hb hy d26_10) rfl rfl rfl all0 tri ?_
  intro v5 T5 h5 lo5 W5 K5 q5
  obtain rfl := q5.2.2
  show Gl _ _ _ _ _ _ _ _ [(.int 6)]
  refine o_istore W5 (L' := #[vr a1, vr a2, .val .null, vr a3, vi 6]) 15 (hb hy d26_13) rfl rfl <| o_aloadN W5 16 (hb hy d26_15) rfl rfl rfl ?_
  have c6 := ((z4.keep K2 nin0).keep K5 nin0)
  have c7 := (c4.keep K5)
  refine o_virtualC W5 (w162 hw) (w124 hw) (o_nf W5 rfl (w126 hw)) (w126 hw) (w125 hw) (by decide) c7 (w127 hw) (w51 hw) (rm21 l hw gCS a2 h5 W5.old SgCS NgCS c6) 0 0 0 (by decide) (by rw [hml]; rfl) (lenOf pd11 rfl) [] rfl rfl 19 (hb hy d26_16) rfl rfl rfl all0 tri ?_
  intro v8 T8 h8 lo8 W8 K8 q8
  obtain rfl := q8.2.2
  show Gl _ _ _ _ _ _ _ _ [(.int 1)]
  refine o_ifN W8 22 (hb hy d26_19) (XT.i0_eq_f (by decide)) rfl <| o_aloadN W8 23 (hb hy d26_22) rfl rfl rfl <| o_iconst W8 (v := 0) 24 (hb hy d26_23) rfl rfl ?_
  have c9 := (((z5.keep K2).keep K5).keep K8)
  have c10 := (((z6.keep K2 nin0).keep K5 nin0).keep K8 nin0)
  refine o_putF W8 (w21 hw) Via.refl c10 c9 (Or.inr ⟨(w17 hw), rfl, hnm⟩) (w2 hw) (ty := .byte) (v' := iZ) (by decide) rfl (by decide) z7 m0 tri 27 (hb hy d26_24) rfl ?_
  intro T11 h11 lo11 W11 R11
  have F11 := c10.same R11
  refine o_aloadN W11 28 (hb hy d26_27) rfl rfl rfl <| o_aloadN W11 29 (hb hy d26_28) rfl rfl rfl <| o_iconst W11 (v := 0) 30 (hb hy d26_29) rfl rfl <| o_iload W11 32 (hb hy d26_30) rfl rfl ?_
  have c12 := (c9.wr R11)
  have c13 := (((z8.keep K2 nin0).keep K5 nin0).keep K8 nin0)
  have c14 := ((((z8.keep K2 nin0).keep K5 nin0).keep K8 nin0).other R11 (Ne.symm (Exa.neArv c9 c13 (w2 hw))))
  refine o_staticC W11 (w163 hw) (w164 hw) (w165 hw) (w166 hw) (by decide) (rm136 l hw a3 z0 x1 x2 x3 h11 W11.old c14) 1 1 6 (by decide) (by rw [hml]; rfl) (lenOf pd19 rfl) [(.ref a1)] rfl rfl 35 (hb hy d26_32) rfl rfl rfl all0 tri ?_
  intro v15 T15 h15 lo15 W15 K15 q15
  obtain ⟨r1_15, r2_15, P15_0, P15_1, rfl⟩ := q15.2.2
  show Gl _ _ _ _ _ _ _ _ [(.ref r1_15), (.ref a1)]
  have c16 := (c12.keep K15)
  have c17 := (((((z9.keep K2 nin0).keep K5 nin0).keep K8 nin0).other R11 (Or.inr (slot_ne (Or.inr (w16 hw)) (Or.inr (w17 hw)) (by decide) (t := (.array .byte)) (t' := .byte) (by decide) (by decide)))).keep K15 nin0)
  refine o_putF W15 (w20 hw) Via.refl c17 c16 (Or.inr ⟨(w16 hw), rfl, hnm⟩) (w2 hw) (ty := (.array .byte)) (v' := (.ref r1_15)) (by decide) rfl rfl z7 m0 tri 38 (hb hy d26_35) rfl ?_
  intro T18 h18 lo18 W18 R18
  have F18 := c17.same R18
  refine o_goto W18 97 (hb hy d26_38) (by decide) rfl ?_
  have c19 := ((F11.keep K15 nin0).other R18 (Or.inr (slot_ne (Or.inr (w17 hw)) (Or.inr (w16 hw)) (by decide) (t := .byte) (t' := (.array .byte)) (by decide) (by decide))))
  have c20 := (c16.wr R18)
  have c21 := (P15_1.other R18 (own_ne' c12.lt P15_0))
  exact o_ret0 W18 hlk hret (hb hy d26_97) (by decide) (by decide) ⟨r1_15, r2_15, (Nat.le_trans W11.keep.1 P15_0), c19, F18, c21, rfl⟩
theorem rm138 (l : Launch) {Z a0} (hw : HW Z a0) (gCS : Int32) (a1 a2 a3 : Addr) (z0 : ClassId) (x1 x2 x3 : Int32) (h0 : Heap) (O0 : Old Z Z.heap.size h0) (z1 : Exa Z h0 a2 s2) (z2 : Fld Z h0 a2 s1 "value" "[B" (.ref a3)) (z3 : Fld Z h0 a2 s1 "count" "I" (.int 6)) (SgCS : Sta Z Z.heap s0 s3 "Z" (.int gCS)) (NgCS : ¬ (gCS = (0 : Int32))) (z4 : Fld Z h0 a2 s1 "coder" "B" iZ) (z5 : Exa Z h0 a1 s0) (z6 : Fld Z h0 a1 s0 "coder" "B" iZ) (z7 : Arv Z h0 a3 z0 .byte 16 [(.int 60), (.int x1), (.int 62), (.int x2), (.int x3), (.int 62), iZ, iZ, iZ, iZ, iZ, iZ, iZ, iZ, iZ, iZ] iZ) (z8 : Fld Z h0 a1 s0 "value" "[B" .null) (z9 : Z.heap.size ≤ a1) :
    CtrN l Z mn26 jdk_42_method_53_code 2 none [] (⟨4, 1, 6, 74⟩ : Room) #[(.ref a1), (.ref a2)] h0 [a1] (fun v h => ∃ r1 : Addr, ∃ r2 : ClassId, h0.size ≤ r1 ∧ Fld Z h a1 s0 "coder" "B" iZ ∧ Fld Z h a1 s0 "value" "[B" (.ref r1) ∧ Arv Z h r1 r2 .byte 6 [(.int 60), (.int x1), (.int 62), (.int x2), (.int x3), (.int 62)] iZ ∧ v = none) := by
  refine CtrN.intro (L0 := #[vr a1, vr a2]) (plainFor_of_name pn0) O0 (own_entry rfl) ?_
  intro p e s m below meth c T0 hy hml hret hlk hnm W0
  refine o_aloadN W0 1 (hb hy d25_0) rfl rfl rfl <| o_aloadN W0 2 (hb hy d25_1) rfl rfl rfl ?_
  refine o_aconstNull W0 3 (hb hy d25_2) rfl ?_
  refine o_specialC W0 rfl (w146 hw) (w147 hw) (w148 hw) (by decide) (w3 hw) (rm137 l hw gCS a1 a2 a3 z0 x1 x2 x3 h0 W0.old z1 z2 z3 SgCS NgCS z4 z5 z6 z9 z7 z8) 0 1 6 (by decide) (by rw [hml]; rfl) (lenOf pd20 rfl) [] rfl rfl 6 (hb hy d25_3) rfl rfl rfl (allS ⟨z9, m0⟩ all0) tri ?_
  intro v1 T1 h1 lo1 W1 K1 q1
  obtain ⟨r1_1, r2_1, P1_0, P1_1, P1_2, P1_3, rfl⟩ := q1.2.2
  show Gl _ _ _ _ _ _ _ _ []
  have c2 := (z5.keep K1)
  exact o_ret0 W1 hlk hret (hb hy d25_6) (by decide) (by decide) ⟨r1_1, r2_1, (Nat.le_trans W0.keep.1 P1_0), P1_1, P1_2, P1_3, rfl⟩
theorem rm139 (l : Launch) {Z a0} (hw : HW Z a0) (gCS : Int32) (a1 a2 : Addr) (z0 : ClassId) (x1 x2 x3 : Int32) (h0 : Heap) (O0 : Old Z Z.heap.size h0) (z1 : Exa Z h0 a1 s2) (z2 : Fld Z h0 a1 s1 "value" "[B" (.ref a2)) (z3 : Fld Z h0 a1 s1 "count" "I" (.int 6)) (SgCS : Sta Z Z.heap s0 s3 "Z" (.int gCS)) (NgCS : ¬ (gCS = (0 : Int32))) (z4 : Fld Z h0 a1 s1 "coder" "B" iZ) (z5 : Arv Z h0 a2 z0 .byte 16 [(.int 60), (.int x1), (.int 62), (.int x2), (.int x3), (.int 62), iZ, iZ, iZ, iZ, iZ, iZ, iZ, iZ, iZ, iZ] iZ) :
    CtrN l Z mn27 jdk_67_method_42_code 1 (some (.object s0)) [] (⟨5, 2, 10, 88⟩ : Room) #[(.ref a1)] h0 [] (fun v h => ∃ r1 : Addr, ∃ r2 : Addr, ∃ r3 : ClassId, h0.size ≤ r1 ∧ h0.size ≤ r2 ∧ Exa Z h r1 s0 ∧ Fld Z h r1 s0 "value" "[B" (.ref r2) ∧ Fld Z h r1 s0 "coder" "B" iZ ∧ Arv Z h r2 r3 .byte 6 [(.int 60), (.int x1), (.int 62), (.int x2), (.int x3), (.int 62)] iZ ∧ v = some (.ref r1)) := by
  refine CtrN.intro (L0 := #[vr a1]) (plainFor_of_name pn2) O0 (own_entry rfl) ?_
  intro p e s m below meth c T0 hy hml hret hlk hnm W0
  refine o_new W0 (w142 hw) (w2 hw) (w3 hw) tri 3 (hb hy d24_0) rfl (cells' := 1) (slots' := 4) rfl rfl (by decide) (by decide) ?_
  intro b1 T1 h1 W1 E1 ge1 gz1 gb1 A1 D1
  have Fb1_value : Fld Z h1 b1 s0 "value" "[B" .null := D1 (Or.inr (w16 hw)) (ty := (.array .byte)) (by decide)
  have Fb1_coder : Fld Z h1 b1 s0 "coder" "B" iZ := D1 (Or.inr (w17 hw)) (ty := .byte) (by decide)
  refine o_dup W1 4 (hb hy d24_3) rfl rfl <| o_aloadN W1 5 (hb hy d24_4) rfl rfl rfl ?_
  have c2 := (z1.ext E1)
  have c3 := (z2.ext E1)
  have c4 := (z3.ext E1)
  have c5 := (z4.ext E1)
  have c6 := (z5.ext E1)
  refine o_specialC W1 rfl (w143 hw) (w144 hw) (w145 hw) (by decide) (w3 hw) (rm138 l hw gCS b1 a1 a2 z0 x1 x2 x3 h1 W1.old c2 c3 c4 SgCS NgCS c5 A1 Fb1_coder c6 Fb1_value gz1) 1 2 10 (by decide) (by rw [hml]; rfl) (lenOf pd21 rfl) [(.ref b1)] rfl rfl 8 (hb hy d24_5) rfl rfl rfl (allS ⟨gz1, (Or.inr gb1)⟩ all0) tri ?_
  intro v7 T7 h7 lo7 W7 K7 q7
  obtain ⟨r1_7, r2_7, P7_0, P7_1, P7_2, P7_3, rfl⟩ := q7.2.2
  show Gl _ _ _ _ _ _ _ _ [(.ref b1)]
  have c8 := (A1.keep K7)
  exact o_retA W7 hlk (v := (.ref b1)) hret rfl rfl (hb hy d24_8) (by decide) (by decide) ⟨b1, r1_7, r2_7, gb1, (Nat.le_trans W1.keep.1 P7_0), c8, P7_2, P7_1, P7_3, rfl⟩
theorem rm140 (l : Launch) {Z a0} (hw : HW Z a0) (gCS : Int32) (a1 a2 a3 : Addr) (z0 : ClassId) (x1 x2 x3 : Int32) (h0 : Heap) (O0 : Old Z Z.heap.size h0) (z1 : Fld Z h0 a1 s4 "out" s5 (.ref a2)) (z2 : Exa Z h0 a2 s2) (z3 : Fld Z h0 a2 s1 "value" "[B" (.ref a3)) (z4 : Fld Z h0 a2 s1 "count" "I" (.int 6)) (SgCS : Sta Z Z.heap s0 s3 "Z" (.int gCS)) (NgCS : ¬ (gCS = (0 : Int32))) (z5 : Fld Z h0 a2 s1 "coder" "B" iZ) (z6 : Arv Z h0 a3 z0 .byte 16 [(.int 60), (.int x1), (.int 62), (.int x2), (.int x3), (.int 62), iZ, iZ, iZ, iZ, iZ, iZ, iZ, iZ, iZ, iZ] iZ) :
    CtrN l Z mn28 prog_5_method_8_code 1 (some (.object s0)) [] (⟨6, 2, 10, 100⟩ : Room) #[(.ref a1)] h0 [] (fun v h => ∃ r1 : Addr, ∃ r2 : Addr, ∃ r3 : ClassId, h0.size ≤ r1 ∧ h0.size ≤ r2 ∧ Exa Z h r1 s0 ∧ Fld Z h r1 s0 "value" "[B" (.ref r2) ∧ Fld Z h r1 s0 "coder" "B" iZ ∧ Arv Z h r2 r3 .byte 6 [(.int 60), (.int x1), (.int 62), (.int x2), (.int x3), (.int 62)] iZ ∧ v = some (.ref r1)) := by
  refine CtrN.intro (L0 := #[vr a1]) (plainFor_of_name pn3) O0 (own_entry rfl) ?_
  intro p e s m below meth c T0 hy hml hret hlk hnm W0
  refine o_aloadN W0 1 (hb hy d23_0) rfl rfl rfl ?_
  refine o_getF W0 (w59 hw) Via.refl z1 4 (hb hy d23_1) rfl ?_
  intro T1 W1
  refine o_virtualC W1 (w137 hw) (w138 hw) (o_nf W1 rfl (w140 hw)) (w140 hw) (w139 hw) (by decide) z2 (w141 hw) (w43 hw) (rm139 l hw gCS a2 a3 z0 x1 x2 x3 h0 W1.old z2 z3 z4 SgCS NgCS z5 z6) 0 2 10 (by decide) (by rw [hml]; rfl) (lenOf pd22 rfl) [] rfl rfl 7 (hb hy d23_4) rfl rfl rfl all0 tri ?_
  intro v2 T2 h2 lo2 W2 K2 q2
  obtain ⟨r1_2, r2_2, r3_2, P2_0, P2_1, P2_2, P2_3, P2_4, P2_5, rfl⟩ := q2.2.2
  show Gl _ _ _ _ _ _ _ _ [(.ref r1_2)]
  exact o_retA W2 hlk (v := (.ref r1_2)) hret rfl rfl (hb hy d23_7) (by decide) (by decide) ⟨r1_2, r2_2, r3_2, (Nat.le_trans W1.keep.1 P2_0), (Nat.le_trans W1.keep.1 P2_1), P2_2, P2_3, P2_4, P2_5, rfl⟩
theorem rm141 (l : Launch) {Z a0} (hw : HW Z a0) (a1 a2 : Addr) (z0 : ClassId) (x1 : Int32) (z1 : ClassId) (x2 x3 x4 : Int32) (h0 : Heap) (O0 : Old Z Z.heap.size h0) (z2 : Arv Z h0 a1 z0 .byte 6 [(.int (b8 60)), (.int (b8 x1)), (.int (b8 62)), (.int (b8 60)), (.int (b8 47)), (.int (b8 62))] iZ) (z3 : Arv Z h0 a2 z1 .byte 6 [(.int 60), (.int x2), (.int 62), (.int x3), (.int x4), (.int 62)] iZ) (hc1 : (b8 x1) = x2) (hc2 : (b8 60) = x3) (hc3 : (b8 47) = x4) :
    CtrN l Z mn29 jdk_43_method_13_code 3 (some .boolean) [] (⟨0, 0, 0, 0⟩ : Room) #[(.ref a1), (.ref a2)] h0 [] (fun v h => v = some (.int 1)) := by
  refine CtrN.intro (L0 := #[vr a1, vr a2, un]) (plainFor_of_name pn4) O0 (own_entry rfl) ?_
  intro p e s m below meth c T0 hy hml hret hlk hnm W0
  refine o_aloadN W0 1 (hb hy d35_0) rfl rfl rfl <| o_len W0 z2 2 (hb hy d35_1) rfl <| o_aloadN W0 3 (hb hy d35_2) rfl rfl rfl <| o_len W0 z3 4 (hb hy d35_3) rfl <| o_icmpN W0 7 (hb hy d35_4) (XT.ii_ne_f (by decide)) rfl <| o_iconst W0 (v := 0) 8 (hb hy d35_7) rfl rfl ?_
  refine o_istoreN W0 (L' := #[vr a1, vr a2, vi 0]) 9 (hb hy d35_8) rfl rfl <| o_iloadN W0 10 (hb hy d35_9) rfl rfl <| o_aloadN W0 11 (hb hy d35_10) rfl rfl rfl <| o_len W0 z2 12 (hb hy d35_11) rfl <| o_icmpN W0 15 (hb hy d35_12) (XT.ii_ge_f (by decide)) rfl <| o_aloadN W0 16 (hb hy d35_15) rfl rfl rfl ?_
  refine o_iloadN W0 17 (hb hy d35_16) rfl rfl <| o_baload W0 z2 (x := (b8 60)) (i := 0) (by decide) (by decide) (by decide) rfl 18 (hb hy d35_17) rfl <| o_aloadN W0 19 (hb hy d35_18) rfl rfl rfl <| o_iloadN W0 20 (hb hy d35_19) rfl rfl <| o_baload W0 z3 (x := (60 : Int32)) (i := 0) (by decide) (by decide) (by decide) rfl 21 (hb hy d35_20) rfl <| o_icmpY W0 26 (hb hy d35_21) (XT.ii_eq_t (by decide)) (by decide) rfl ?_
  refine o_iinc W0 (v := 1) (L' := #[vr a1, vr a2, vi 1]) 29 (hb hy d35_26) rfl (by decide) rfl rfl <| o_goto W0 9 (hb hy d35_29) (by decide) rfl <| o_iloadN W0 10 (hb hy d35_9) rfl rfl <| o_aloadN W0 11 (hb hy d35_10) rfl rfl rfl <| o_len W0 z2 12 (hb hy d35_11) rfl <| o_icmpN W0 15 (hb hy d35_12) (XT.ii_ge_f (by decide)) rfl ?_
  refine o_aloadN W0 16 (hb hy d35_15) rfl rfl rfl <| o_iloadN W0 17 (hb hy d35_16) rfl rfl <| o_baload W0 z2 (x := (b8 x1)) (i := 1) (by decide) (by decide) (by decide) rfl 18 (hb hy d35_17) rfl <| o_aloadN W0 19 (hb hy d35_18) rfl rfl rfl <| o_iloadN W0 20 (hb hy d35_19) rfl rfl <| o_baload W0 z3 (x := x2) (i := 1) (by decide) (by decide) (by decide) rfl 21 (hb hy d35_20) rfl ?_
  refine o_icmpY W0 26 (hb hy d35_21) (XT.ii_eq_t hc1) (by decide) rfl <| o_iinc W0 (v := 2) (L' := #[vr a1, vr a2, vi 2]) 29 (hb hy d35_26) rfl (by decide) rfl rfl <| o_goto W0 9 (hb hy d35_29) (by decide) rfl <| o_iloadN W0 10 (hb hy d35_9) rfl rfl <| o_aloadN W0 11 (hb hy d35_10) rfl rfl rfl <| o_len W0 z2 12 (hb hy d35_11) rfl ?_
  refine o_icmpN W0 15 (hb hy d35_12) (XT.ii_ge_f (by decide)) rfl <| o_aloadN W0 16 (hb hy d35_15) rfl rfl rfl <| o_iloadN W0 17 (hb hy d35_16) rfl rfl <| o_baload W0 z2 (x := (b8 62)) (i := 2) (by decide) (by decide) (by decide) rfl 18 (hb hy d35_17) rfl <| o_aloadN W0 19 (hb hy d35_18) rfl rfl rfl <| o_iloadN W0 20 (hb hy d35_19) rfl rfl ?_
  refine o_baload W0 z3 (x := (62 : Int32)) (i := 2) (by decide) (by decide) (by decide) rfl 21 (hb hy d35_20) rfl <| o_icmpY W0 26 (hb hy d35_21) (XT.ii_eq_t (by decide)) (by decide) rfl <| o_iinc W0 (v := 3) (L' := #[vr a1, vr a2, vi 3]) 29 (hb hy d35_26) rfl (by decide) rfl rfl <| o_goto W0 9 (hb hy d35_29) (by decide) rfl <| o_iloadN W0 10 (hb hy d35_9) rfl rfl <| o_aloadN W0 11 (hb hy d35_10) rfl rfl rfl ?_
  refine o_len W0 z2 12 (hb hy d35_11) rfl <| o_icmpN W0 15 (hb hy d35_12) (XT.ii_ge_f (by decide)) rfl <| o_aloadN W0 16 (hb hy d35_15) rfl rfl rfl <| o_iloadN W0 17 (hb hy d35_16) rfl rfl <| o_baload W0 z2 (x := (b8 60)) (i := 3) (by decide) (by decide) (by decide) rfl 18 (hb hy d35_17) rfl <| o_aloadN W0 19 (hb hy d35_18) rfl rfl rfl ?_
  refine o_iloadN W0 20 (hb hy d35_19) rfl rfl <| o_baload W0 z3 (x := x3) (i := 3) (by decide) (by decide) (by decide) rfl 21 (hb hy d35_20) rfl <| o_icmpY W0 26 (hb hy d35_21) (XT.ii_eq_t hc2) (by decide) rfl <| o_iinc W0 (v := 4) (L' := #[vr a1, vr a2, vi 4]) 29 (hb hy d35_26) rfl (by decide) rfl rfl <| o_goto W0 9 (hb hy d35_29) (by decide) rfl <| o_iloadN W0 10 (hb hy d35_9) rfl rfl ?_
  refine o_aloadN W0 11 (hb hy d35_10) rfl rfl rfl <| o_len W0 z2 12 (hb hy d35_11) rfl <| o_icmpN W0 15 (hb hy d35_12) (XT.ii_ge_f (by decide)) rfl <| o_aloadN W0 16 (hb hy d35_15) rfl rfl rfl <| o_iloadN W0 17 (hb hy d35_16) rfl rfl <| o_baload W0 z2 (x := (b8 47)) (i := 4) (by decide) (by decide) (by decide) rfl 18 (hb hy d35_17) rfl ?_
  refine o_aloadN W0 19 (hb hy d35_18) rfl rfl rfl <| o_iloadN W0 20 (hb hy d35_19) rfl rfl <| o_baload W0 z3 (x := x4) (i := 4) (by decide) (by decide) (by decide) rfl 21 (hb hy d35_20) rfl <| o_icmpY W0 26 (hb hy d35_21) (XT.ii_eq_t hc3) (by decide) rfl <| o_iinc W0 (v := 5) (L' := #[vr a1, vr a2, vi 5]) 29 (hb hy d35_26) rfl (by decide) rfl rfl <| o_goto W0 9 (hb hy d35_29) (by decide) rfl ?_
  refine o_iloadN W0 10 (hb hy d35_9) rfl rfl <| o_aloadN W0 11 (hb hy d35_10) rfl rfl rfl <| o_len W0 z2 12 (hb hy d35_11) rfl <| o_icmpN W0 15 (hb hy d35_12) (XT.ii_ge_f (by decide)) rfl <| o_aloadN W0 16 (hb hy d35_15) rfl rfl rfl <| o_iloadN W0 17 (hb hy d35_16) rfl rfl ?_
  refine o_baload W0 z2 (x := (b8 62)) (i := 5) (by decide) (by decide) (by decide) rfl 18 (hb hy d35_17) rfl <| o_aloadN W0 19 (hb hy d35_18) rfl rfl rfl <| o_iloadN W0 20 (hb hy d35_19) rfl rfl <| o_baload W0 z3 (x := (62 : Int32)) (i := 5) (by decide) (by decide) (by decide) rfl 21 (hb hy d35_20) rfl <| o_icmpY W0 26 (hb hy d35_21) (XT.ii_eq_t (by decide)) (by decide) rfl <| o_iinc W0 (v := 6) (L' := #[vr a1, vr a2, vi 6]) 29 (hb hy d35_26) rfl (by decide) rfl rfl ?_
  refine o_goto W0 9 (hb hy d35_29) (by decide) rfl <| o_iloadN W0 10 (hb hy d35_9) rfl rfl <| o_aloadN W0 11 (hb hy d35_10) rfl rfl rfl <| o_len W0 z2 12 (hb hy d35_11) rfl <| o_icmpY W0 32 (hb hy d35_12) (XT.ii_ge_t (by decide)) (by decide) rfl <| o_iconst W0 (v := 1) 33 (hb hy d35_32) rfl rfl ?_
  exact o_retN W0 hlk (t := .boolean) hret (by simp) (z' := (1 : Int32)) (by decide) (hb hy d35_33) (by decide) (by decide) rfl
theorem rm142 (l : Launch) {Z a0} (hw : HW Z a0) (gCS : Int32) (a1 a2 a3 a4 : Addr) (z0 : ClassId) (x1 : Int32) (z1 : ClassId) (x2 x3 x4 : Int32) (h0 : Heap) (O0 : Old Z Z.heap.size h0) (z2 : Exa Z h0 a1 s0) (z3 : Exa Z h0 a2 s0) (z4 : a1 ≠ a2) (SgCS : Sta Z Z.heap s0 s3 "Z" (.int gCS)) (NgCS : ¬ (gCS = (0 : Int32))) (z5 : Fld Z h0 a1 s0 "coder" "B" iZ) (z6 : Fld Z h0 a2 s0 "coder" "B" iZ) (z7 : Fld Z h0 a1 s0 "value" "[B" (.ref a3)) (z8 : Fld Z h0 a2 s0 "value" "[B" (.ref a4)) (z9 : Arv Z h0 a3 z0 .byte 6 [(.int (b8 60)), (.int (b8 x1)), (.int (b8 62)), (.int (b8 60)), (.int (b8 47)), (.int (b8 62))] iZ) (z10 : Arv Z h0 a4 z1 .byte 6 [(.int 60), (.int x2), (.int 62), (.int x3), (.int x4), (.int 62)] iZ) (hc8 : (b8 x1) = x2) (hc9 : (b8 60) = x3) (hc10 : (b8 47) = x4) :
    CtrN l Z mn30 jdk_42_method_66_code 3 (some .boolean) [] (⟨1, 0, 0, 14⟩ : Room) #[(.ref a1), (.ref a2)] h0 [] (fun v h => v = some (.int 1)) := by
  refine CtrN.intro (L0 := #[vr a1, vr a2, un]) (plainFor_of_name pn0) O0 (own_entry rfl) ?_
  intro p e s m below meth c T0 hy hml hret hlk hnm W0
  refine o_aloadN W0 1 (hb hy d34_0) rfl rfl rfl <| o_aloadN W0 2 (hb hy d34_1) rfl rfl rfl ?_
  refine o_acmpY W0 7 (hb hy d34_2) rfl rfl (XT.aa_ne_t (fun q => z4 (Value.ref.inj q))) (by decide) rfl ?_
  refine o_aloadN W0 8 (hb hy d34_7) rfl rfl rfl ?_
  refine o_instY W0 (w183 hw) (Ins.self z3) 11 (hb hy d34_8) rfl ?_
  intro T1 W1
  refine o_ifN W1 14 (hb hy d34_11) (XT.i0_eq_f (by decide)) rfl <| o_aloadN W1 15 (hb hy d34_14) rfl rfl rfl ?_
  refine o_cast W1 (w183 hw) (Ins.self z3) 18 (hb hy d34_15) rfl ?_
  intro T2 W2
  refine o_astoreN W2 (L' := #[vr a1, vr a2, vr a2]) 19 (hb hy d34_18) rfl rfl rfl ?_
  refine o_getS W2 (w22 hw) Via.refl (SgCS.ext W2.ox) 22 (hb hy d34_19) rfl ?_
  intro T3 W3
  refine o_ifN W3 25 (hb hy d34_22) (XT.i0_eq_f NgCS) rfl <| o_aloadN W3 26 (hb hy d34_25) rfl rfl rfl ?_
  refine o_getF W3 (w21 hw) Via.refl z5 29 (hb hy d34_26) rfl ?_
  intro T4 W4
  refine o_aloadN W4 30 (hb hy d34_29) rfl rfl rfl ?_
  refine o_getF W4 (w21 hw) Via.refl z6 33 (hb hy d34_30) rfl ?_
  intro T5 W5
  refine o_icmpN W5 36 (hb hy d34_33) (XT.ii_ne_f (by decide)) rfl <| o_aloadN W5 37 (hb hy d34_36) rfl rfl rfl ?_
  refine o_getF W5 (w20 hw) Via.refl z7 40 (hb hy d34_37) rfl ?_
  intro T6 W6
  refine o_aloadN W6 41 (hb hy d34_40) rfl rfl rfl ?_
  refine o_getF W6 (w20 hw) Via.refl z8 44 (hb hy d34_41) rfl ?_
  intro T7 W7
  refine o_staticC W7 (w184 hw) (w185 hw) (w130 hw) (w186 hw) (by decide) (rm141 l hw a3 a4 z0 x1 z1 x2 x3 x4 h0 W7.old z9 z10 hc8 hc9 hc10) 0 0 0 (by decide) (by rw [hml]; rfl) (lenOf pd23 rfl) [] rfl rfl 47 (hb hy d34_44) rfl rfl rfl all0 tri ?_
  intro v11 T11 h11 lo11 W11 K11 q11
  obtain rfl := q11.2.2
  show Gl _ _ _ _ _ _ _ _ [(.int 1)]
  refine o_ifN W11 50 (hb hy d34_47) (XT.i0_eq_f (by decide)) rfl <| o_iconst W11 (v := 1) 51 (hb hy d34_50) rfl rfl <| o_goto W11 55 (hb hy d34_51) (by decide) rfl ?_
  exact o_retN W11 hlk (t := .boolean) hret (by simp) (z' := (1 : Int32)) (by decide) (hb hy d34_55) (by decide) (by decide) rfl
theorem rm143 (l : Launch) {Z a0} (hw : HW Z a0) (gCS : Int32) (a1 a2 a3 : Addr) (z0 : ClassId) (x1 : Int32) (z1 : ClassId) (x2 x3 x4 : Int32) (h0 : Heap) (O0 : Old Z Z.heap.size h0) (z2 : Exa Z h0 a1 s0) (SgCS : Sta Z Z.heap s0 s3 "Z" (.int gCS)) (NgCS : ¬ (gCS = (0 : Int32))) (z3 : Fld Z h0 a1 s0 "coder" "B" iZ) (z4 : Fld Z h0 a1 s0 "value" "[B" (.ref a3)) (z5 : Arv Z h0 a3 z0 .byte 1 [(.int (b8 x1))] iZ) (z6 : Arv Z h0 a2 z1 .byte 16 [(.int 60), (.int x2), (.int 62), (.int x3), (.int x4), iZ, iZ, iZ, iZ, iZ, iZ, iZ, iZ, iZ, iZ, iZ] iZ) (z7 : Z.heap.size ≤ a2) :
    CtrN l Z mn9 jdk_42_method_147_code 4 none [] (⟨1, 0, 0, 27⟩ : Room) #[(.ref a1), (.ref a2), (.int 5), iZ] h0 [a2] (fun v h => Arv Z h a2 z1 .byte 16 [(.int 60), (.int x2), (.int 62), (.int x3), (.int x4), (.int (b8 x1)), iZ, iZ, iZ, iZ, iZ, iZ, iZ, iZ, iZ, iZ] iZ ∧ v = none) := by
  refine CtrN.intro (L0 := #[vr a1, vr a2, vi 5, vi 0]) (plainFor_of_name pn0) O0 (own_entry rfl) ?_
  intro p e s m below meth c T0 hy hml hret hlk hnm W0
  refine o_aloadN W0 1 (hb hy d18_0) rfl rfl rfl ?_
  refine o_virtualC W0 (w82 hw) (w83 hw) (o_nf W0 rfl (w85 hw)) (w85 hw) (w84 hw) (by decide) z2 (w86 hw) (w3 hw) (rm6 l hw gCS a1 h0 W0.old SgCS NgCS z3) 0 0 0 (by decide) (by rw [hml]; rfl) (lenOf pd4 rfl) [] rfl rfl 4 (hb hy d18_1) rfl rfl rfl all0 tri ?_
  intro v1 T1 h1 lo1 W1 K1 q1
  obtain rfl := q1.2.2
  show Gl _ _ _ _ _ _ _ _ [iZ]
  refine o_iloadN W1 5 (hb hy d18_4) rfl rfl <| o_icmpN W1 8 (hb hy d18_5) (XT.ii_ne_f (by decide)) rfl <| o_aloadN W1 9 (hb hy d18_8) rfl rfl rfl ?_
  have c2 := (z4.keep K1 nin0)
  refine o_getF W1 (w20 hw) Via.refl c2 12 (hb hy d18_9) rfl ?_
  intro T3 W3
  refine o_iconst W3 (v := 0) 13 (hb hy d18_12) rfl rfl <| o_aloadN W3 14 (hb hy d18_13) rfl rfl rfl <| o_iloadN W3 15 (hb hy d18_14) rfl rfl <| o_iloadN W3 16 (hb hy d18_15) rfl rfl <| o_ishl W3 (v := 5) 17 (hb hy d18_16) (by decide) rfl <| o_aloadN W3 18 (hb hy d18_17) rfl rfl rfl ?_
  refine o_getF W3 (w20 hw) Via.refl c2 21 (hb hy d18_18) rfl ?_
  intro T4 W4
  have c5 := (z5.keep K1 nin0)
  refine o_len W4 c5 22 (hb hy d18_21) rfl ?_
  have c6 := (z6.keep K1 nin0)
  refine o_copy W4 (w110 hw) (w113 hw) (w111 hw) (w112 hw) c5 c6 (us := [(.int (b8 x1))]) (Or.inl ⟨rfl, rfl⟩) (by decide) (by decide) (by decide) (by decide) (by decide) rfl (Nat.le_of_ble_eq_true rfl) (vd' := [(.int 60), (.int x2), (.int 62), (.int x3), (.int x4), (.int (b8 x1)), iZ, iZ, iZ, iZ, iZ, iZ, iZ, iZ, iZ, iZ]) rfl z7 m0 tri (by rw [hml]; rfl) 25 (hb hy d18_22) rfl (by decide) 0 (by exact Nat.le_of_eq rfl) (by decide) ?_
  intro T7 h7 lo7 W7 K7 V7
  refine o_goto W7 43 (hb hy d18_25) (by decide) rfl ?_
  exact o_ret0 W7 hlk hret (hb hy d18_43) (by decide) (by decide) ⟨V7, rfl⟩
theorem rm144 (l : Launch) {Z a0} (hw : HW Z a0) (gCS : Int32) (a1 a2 a3 a4 : Addr) (z0 : ClassId) (x1 : Int32) (z1 : ClassId) (x2 x3 x4 : Int32) (h0 : Heap) (O0 : Old Z Z.heap.size h0) (z2 : Exa Z h0 a1 s2) (SgCS : Sta Z Z.heap s0 s3 "Z" (.int gCS)) (NgCS : ¬ (gCS = (0 : Int32))) (z3 : Fld Z h0 a1 s1 "coder" "B" iZ) (z4 : Exa Z h0 a2 s0) (z5 : Fld Z h0 a2 s0 "coder" "B" iZ) (z6 : Fld Z h0 a1 s1 "value" "[B" (.ref a3)) (z7 : Fld Z h0 a2 s0 "value" "[B" (.ref a4)) (z8 : Arv Z h0 a4 z0 .byte 1 [(.int (b8 x1))] iZ) (z9 : Arv Z h0 a3 z1 .byte 16 [(.int 60), (.int x2), (.int 62), (.int x3), (.int x4), iZ, iZ, iZ, iZ, iZ, iZ, iZ, iZ, iZ, iZ, iZ] iZ) (z10 : Z.heap.size ≤ a3) :
    CtrN l Z mn10 jdk_68_method_73_code 3 none [] (⟨2, 0, 0, 42⟩ : Room) #[(.ref a1), (.int 5), (.ref a2)] h0 [a3] (fun v h => Arv Z h a3 z1 .byte 16 [(.int 60), (.int x2), (.int 62), (.int x3), (.int x4), (.int (b8 x1)), iZ, iZ, iZ, iZ, iZ, iZ, iZ, iZ, iZ, iZ] iZ ∧ v = none) := by
  refine CtrN.intro (L0 := #[vr a1, vi 5, vr a2]) (plainFor_of_name pn1) O0 (own_entry rfl) ?_
  intro p e s m below meth c T0 hy hml hret hlk hnm W0
  refine o_aloadN W0 1 (hb hy d16_0) rfl rfl rfl <| o_aloadN W0 2 (hb hy d16_1) rfl rfl rfl ?_
  refine o_privateC W0 (w99 hw) (w100 hw) (w102 hw) (w101 hw) (w103 hw) (by decide) z2 (w51 hw) (rm9 l hw gCS a1 a2 h0 W0.old SgCS NgCS z3 z4 z5) 0 0 0 (by decide) (by rw [hml]; rfl) (lenOf pd6 rfl) [] rfl rfl 5 (hb hy d16_2) rfl rfl rfl all0 tri ?_
  intro v1 T1 h1 lo1 W1 K1 q1
  obtain rfl := q1.2.2
  show Gl _ _ _ _ _ _ _ _ []
  refine o_aloadN W1 6 (hb hy d16_5) rfl rfl rfl <| o_aloadN W1 7 (hb hy d16_6) rfl rfl rfl ?_
  have c2 := (z6.keep K1 nin0)
  refine o_getF W1 (w55 hw) Via.refl c2 10 (hb hy d16_7) rfl ?_
  intro T3 W3
  refine o_iloadN W3 11 (hb hy d16_10) rfl rfl <| o_aloadN W3 12 (hb hy d16_11) rfl rfl rfl ?_
  have c4 := (z3.keep K1 nin0)
  refine o_getF W3 (w57 hw) Via.refl c4 15 (hb hy d16_12) rfl ?_
  intro T5 W5
  have c6 := (z5.keep K1 nin0)
  have c7 := (z7.keep K1 nin0)
  have c8 := (z8.keep K1 nin0)
  have c9 := (z9.keep K1 nin0)
  have c10 := (z4.keep K1)
  refine o_virtualC W5 (w105 hw) (w106 hw) (o_nf W5 rfl (w108 hw)) (w108 hw) (w107 hw) (by decide) c10 (w109 hw) (w3 hw) (rm143 l hw gCS a2 a3 a4 z0 x1 z1 x2 x3 x4 h1 W5.old c10 SgCS NgCS c6 c7 c8 c9 z10) 0 0 0 (by decide) (by rw [hml]; rfl) (lenOf pd7 rfl) [] rfl rfl 18 (hb hy d16_15) rfl rfl rfl (allS ⟨z10, m0⟩ all0) tri ?_
  intro v11 T11 h11 lo11 W11 K11 q11
  obtain ⟨P11_0, rfl⟩ := q11.2.2
  show Gl _ _ _ _ _ _ _ _ []
  exact o_ret0 W11 hlk hret (hb hy d16_18) (by decide) (by decide) ⟨P11_0, rfl⟩
theorem rm145 (l : Launch) {Z a0} (hw : HW Z a0) (gCS : Int32) (a1 a2 a3 : Addr) (z0 : ClassId) (x1 : Int32) (a4 : Addr) (z1 : ClassId) (x2 x3 x4 : Int32) (h0 : Heap) (O0 : Old Z Z.heap.size h0) (z2 : Exa Z h0 a2 s0) (z3 : Fld Z h0 a2 s0 "value" "[B" (.ref a3)) (z4 : Arv Z h0 a3 z0 .byte 1 [(.int (b8 x1))] iZ) (SgCS : Sta Z Z.heap s0 s3 "Z" (.int gCS)) (NgCS : ¬ (gCS = (0 : Int32))) (z5 : Fld Z h0 a2 s0 "coder" "B" iZ) (z6 : Fld Z h0 a1 s1 "count" "I" (.int 5)) (z7 : Exa Z h0 a1 s2) (z8 : Fld Z h0 a1 s1 "value" "[B" (.ref a4)) (z9 : Arv Z h0 a4 z1 .byte 16 [(.int 60), (.int x2), (.int 62), (.int x3), (.int x4), iZ, iZ, iZ, iZ, iZ, iZ, iZ, iZ, iZ, iZ, iZ] iZ) (z10 : Fld Z h0 a1 s1 "coder" "B" iZ) (z11 : Z.heap.size ≤ a4) (z12 : Z.heap.size ≤ a1) :
    CtrN l Z mn11 jdk_68_method_22_code 3 (some (.object s1)) [] (⟨3, 0, 0, 56⟩ : Room) #[(.ref a1), (.ref a2)] h0 [a4, a1] (fun v h => Fld Z h a1 s1 "count" "I" (.int 6) ∧ Fld Z h a1 s1 "value" "[B" (.ref a4) ∧ Arv Z h a4 z1 .byte 16 [(.int 60), (.int x2), (.int 62), (.int x3), (.int x4), (.int (b8 x1)), iZ, iZ, iZ, iZ, iZ, iZ, iZ, iZ, iZ, iZ] iZ ∧ Fld Z h a1 s1 "coder" "B" iZ ∧ v = some (.ref a1)) := by
  refine CtrN.intro (L0 := #[vr a1, vr a2, un]) (plainFor_of_name pn1) O0 (own_entry rfl) ?_
  intro p e s m below meth c T0 hy hml hret hlk hnm W0
  refine o_aloadN W0 1 (hb hy d12_0) rfl rfl rfl ?_
  refine o_ifnonnullY W0 9 (hb hy d12_1) (by decide) rfl ?_
  refine o_aloadN W0 10 (hb hy d12_9) rfl rfl rfl ?_
  refine o_virtualC W0 (w77 hw) (w78 hw) (o_nf W0 rfl (w80 hw)) (w80 hw) (w79 hw) (by decide) z2 (w81 hw) (w3 hw) (rm39 l hw gCS a2 a3 z0 x1 h0 W0.old z3 z4 z2 SgCS NgCS z5) 0 0 0 (by decide) (by rw [hml]; rfl) (lenOf pd5 rfl) [] rfl rfl 13 (hb hy d12_10) rfl rfl rfl all0 tri ?_
  intro v1 T1 h1 lo1 W1 K1 q1
  obtain rfl := q1.2.2
  show Gl _ _ _ _ _ _ _ _ [(.int 1)]
  refine o_istoreN W1 (L' := #[vr a1, vr a2, vi 1]) 14 (hb hy d12_13) rfl rfl <| o_aloadN W1 15 (hb hy d12_14) rfl rfl rfl <| o_aloadN W1 16 (hb hy d12_15) rfl rfl rfl ?_
  have c2 := (z6.keep K1 nin0)
  refine o_getF W1 (w87 hw) Via.refl c2 19 (hb hy d12_16) rfl ?_
  intro T3 W3
  refine o_iloadN W3 20 (hb hy d12_19) rfl rfl <| o_iadd W3 (v := 6) 21 (hb hy d12_20) (by decide) rfl ?_
  have c4 := (z7.keep K1)
  have c5 := (z8.keep K1 nin0)
  have c6 := (z9.keep K1 nin0)
  have c7 := (z10.keep K1 nin0)
  refine o_privateC W3 (w89 hw) (w90 hw) (w92 hw) (w91 hw) (w93 hw) (by decide) c4 (w51 hw) (rm131 l hw a1 a4 z1 x2 x3 x4 h1 W3.old c5 c6 c7) 0 0 0 (by decide) (by rw [hml]; rfl) (lenOf pd2 rfl) [] rfl rfl 24 (hb hy d12_21) rfl rfl rfl all0 tri ?_
  intro v8 T8 h8 lo8 W8 K8 q8
  obtain rfl := q8.2.2
  show Gl _ _ _ _ _ _ _ _ []
  refine o_aloadN W8 25 (hb hy d12_24) rfl rfl rfl <| o_aloadN W8 26 (hb hy d12_25) rfl rfl rfl ?_
  have c9 := (c2.keep K8 nin0)
  refine o_getF W8 (w87 hw) Via.refl c9 29 (hb hy d12_26) rfl ?_
  intro T10 W10
  refine o_aloadN W10 30 (hb hy d12_29) rfl rfl rfl ?_
  have c11 := (c7.keep K8 nin0)
  have c12 := ((z5.keep K1 nin0).keep K8 nin0)
  have c13 := (c5.keep K8 nin0)
  have c14 := ((z3.keep K1 nin0).keep K8 nin0)
  have c15 := ((z4.keep K1 nin0).keep K8 nin0)
  have c16 := (c6.keep K8 nin0)
  have c17 := (c4.keep K8)
  have c18 := ((z2.keep K1).keep K8)
  refine o_privateC W10 (w94 hw) (w95 hw) (w97 hw) (w96 hw) (w98 hw) (by decide) c17 (w51 hw) (rm144 l hw gCS a1 a2 a4 a3 z0 x1 z1 x2 x3 x4 h8 W10.old c17 SgCS NgCS c11 c18 c12 c13 c14 c15 c16 z11) 0 0 0 (by decide) (by rw [hml]; rfl) (lenOf pd8 rfl) [] rfl rfl 33 (hb hy d12_30) rfl rfl rfl (allS ⟨z11, m0⟩ all0) tri ?_
  intro v19 T19 h19 lo19 W19 K19 q19
  obtain ⟨P19_0, rfl⟩ := q19.2.2
  show Gl _ _ _ _ _ _ _ _ []
  refine o_aloadN W19 34 (hb hy d12_33) rfl rfl rfl <| o_dup W19 35 (hb hy d12_34) rfl rfl ?_
  have c20 := (c17.keep K19)
  have c21 := (c9.keep K19 (ninS (Exa.neArv c17 c16 (w42 hw)) nin0))
  refine o_getF W19 (w87 hw) Via.refl c21 38 (hb hy d12_35) rfl ?_
  intro T22 W22
  refine o_iloadN W22 39 (hb hy d12_38) rfl rfl <| o_iadd W22 (v := 6) 40 (hb hy d12_39) (by decide) rfl ?_
  refine o_putF W22 (w87 hw) Via.refl c21 c20 (Or.inl (w88 hw)) (w42 hw) (ty := .int) (v' := (.int 6)) (by decide) rfl rfl z12 (Or.inl (List.mem_of_getElem? (i := 1) rfl)) tri 43 (hb hy d12_40) rfl ?_
  intro T23 h23 lo23 W23 R23
  have F23 := c21.same R23
  refine o_aloadN W23 44 (hb hy d12_43) rfl rfl rfl ?_
  have c24 := (c20.wr R23)
  have c25 := ((c13.keep K19 (ninS (Exa.neArv c17 c16 (w42 hw)) nin0)).other R23 (Or.inr (slot_ne (Or.inl (w56 hw)) (Or.inl (w88 hw)) (by decide) (t := (.array .byte)) (t' := .int) (by decide) (by decide))))
  have c26 := ((c11.keep K19 (ninS (Exa.neArv c17 c16 (w42 hw)) nin0)).other R23 (Or.inr (slot_ne (Or.inl (w58 hw)) (Or.inl (w88 hw)) (by decide) (t := .byte) (t' := .int) (by decide) (by decide))))
  have c27 := (P19_0.other R23 (Ne.symm (Exa.neArv c20 P19_0 (w42 hw))))
  exact o_retA W23 hlk (v := (.ref a1)) hret rfl rfl (hb hy d12_44) (by decide) (by decide) ⟨F23, c25, c27, c26, rfl⟩
theorem rm146 (l : Launch) {Z a0} (hw : HW Z a0) (gCS : Int32) (a1 a2 a3 : Addr) (z0 : ClassId) (x1 : Int32) (a4 : Addr) (z1 : ClassId) (x2 x3 x4 : Int32) (h0 : Heap) (O0 : Old Z Z.heap.size h0) (z2 : Exa Z h0 a2 s0) (z3 : Fld Z h0 a2 s0 "value" "[B" (.ref a3)) (z4 : Arv Z h0 a3 z0 .byte 1 [(.int (b8 x1))] iZ) (SgCS : Sta Z Z.heap s0 s3 "Z" (.int gCS)) (NgCS : ¬ (gCS = (0 : Int32))) (z5 : Fld Z h0 a2 s0 "coder" "B" iZ) (z6 : Fld Z h0 a1 s1 "count" "I" (.int 5)) (z7 : Exa Z h0 a1 s2) (z8 : Fld Z h0 a1 s1 "value" "[B" (.ref a4)) (z9 : Arv Z h0 a4 z1 .byte 16 [(.int 60), (.int x2), (.int 62), (.int x3), (.int x4), iZ, iZ, iZ, iZ, iZ, iZ, iZ, iZ, iZ, iZ, iZ] iZ) (z10 : Fld Z h0 a1 s1 "coder" "B" iZ) (z11 : Z.heap.size ≤ a4) (z12 : Z.heap.size ≤ a1) :
    CtrN l Z mn12 jdk_67_method_7_code 2 (some (.object s2)) [] (⟨4, 0, 0, 70⟩ : Room) #[(.ref a1), (.ref a2)] h0 [a1, a4] (fun v h => Fld Z h a1 s1 "count" "I" (.int 6) ∧ Fld Z h a1 s1 "value" "[B" (.ref a4) ∧ Arv Z h a4 z1 .byte 16 [(.int 60), (.int x2), (.int 62), (.int x3), (.int x4), (.int (b8 x1)), iZ, iZ, iZ, iZ, iZ, iZ, iZ, iZ, iZ, iZ] iZ ∧ Fld Z h a1 s1 "coder" "B" iZ ∧ v = some (.ref a1)) := by
  refine CtrN.intro (L0 := #[vr a1, vr a2]) (plainFor_of_name pn2) O0 (own_entry rfl) ?_
  intro p e s m below meth c T0 hy hml hret hlk hnm W0
  refine o_aloadN W0 1 (hb hy d11_0) rfl rfl rfl <| o_aloadN W0 2 (hb hy d11_1) rfl rfl rfl ?_
  refine o_superC W0 (by decide) (w72 hw) (w73 hw) (own_sameN (y := mn11) (y2 := mn7) (by decide) (w73 hw) rfl (w90 hw) (w92 hw)) (w74 hw) (w76 hw) (Ins.self z7) (w51 hw) (rm145 l hw gCS a1 a2 a3 z0 x1 a4 z1 x2 x3 x4 h0 W0.old z2 z3 z4 SgCS NgCS z5 z6 z7 z8 z9 z10 z11 z12) 0 0 0 (by decide) (by rw [hml]; rfl) (lenOf pd9 rfl) [] rfl rfl 5 (hb hy d11_2) rfl rfl rfl (allS ⟨z11, (Or.inl (List.mem_of_getElem? (i := 1) rfl))⟩ (allS ⟨z12, m0⟩ all0)) tri ?_
  intro v1 T1 h1 lo1 W1 K1 q1
  obtain ⟨P1_0, P1_1, P1_2, P1_3, rfl⟩ := q1.2.2
  show Gl _ _ _ _ _ _ _ _ [(.ref a1)]
  refine o_pop W1 6 (hb hy d11_5) rfl rfl <| o_aloadN W1 7 (hb hy d11_6) rfl rfl rfl ?_
  have c2 := (z7.keep K1)
  exact o_retA W1 hlk (v := (.ref a1)) hret rfl rfl (hb hy d11_7) (by decide) (by decide) ⟨P1_0, P1_1, P1_2, P1_3, rfl⟩
theorem rm147 (l : Launch) {Z a0} (hw : HW Z a0) (a1 a2 : Addr) (z0 : ClassId) (x1 x2 x3 x4 : Int32) (h0 : Heap) (O0 : Old Z Z.heap.size h0) (z1 : Fld Z h0 a1 s1 "value" "[B" (.ref a2)) (z2 : Arv Z h0 a2 z0 .byte 16 [(.int 60), (.int x1), (.int 62), (.int x2), (.int x3), (.int x4), iZ, iZ, iZ, iZ, iZ, iZ, iZ, iZ, iZ, iZ] iZ) (z3 : Fld Z h0 a1 s1 "coder" "B" iZ) :
    CtrN l Z mn7 jdk_68_method_9_code 3 none [] (⟨0, 0, 0, 0⟩ : Room) #[(.ref a1), (.int 7)] h0 [] (fun v h => v = none) := by
  refine CtrN.intro (L0 := #[vr a1, vi 7, un]) (plainFor_of_name pn1) O0 (own_entry rfl) ?_
  intro p e s m below meth c T0 hy hml hret hlk hnm W0
  refine o_aloadN W0 1 (hb hy d15_0) rfl rfl rfl ?_
  refine o_getF W0 (w55 hw) Via.refl z1 4 (hb hy d15_1) rfl ?_
  intro T1 W1
  refine o_len W1 z2 5 (hb hy d15_4) rfl <| o_aloadN W1 6 (hb hy d15_5) rfl rfl rfl ?_
  refine o_getF W1 (w57 hw) Via.refl z3 9 (hb hy d15_6) rfl ?_
  intro T2 W2
  refine o_ishr W2 (v := 16) 10 (hb hy d15_9) (by decide) rfl <| o_istoreN W2 (L' := #[vr a1, vi 7, vi 16]) 11 (hb hy d15_10) rfl rfl <| o_iloadN W2 12 (hb hy d15_11) rfl rfl <| o_iloadN W2 13 (hb hy d15_12) rfl rfl <| o_isub W2 (v := (-9 : Int32)) 14 (hb hy d15_13) (by decide) rfl <| o_ifY W2 38 (hb hy d15_14) (XT.i0_le_t (by decide)) (by decide) rfl ?_
  exact o_ret0 W2 hlk hret (hb hy d15_38) (by decide) (by decide) rfl
theorem rm148 (l : Launch) {Z a0} (hw : HW Z a0) (gCS : Int32) (a1 a2 : Addr) (z0 : ClassId) (x1 x2 x3 x4 : Int32) (h0 : Heap) (O0 : Old Z Z.heap.size h0) (z1 : Fld Z h0 a1 s1 "count" "I" (.int 6)) (z2 : Exa Z h0 a1 s2) (z3 : Fld Z h0 a1 s1 "value" "[B" (.ref a2)) (z4 : Arv Z h0 a2 z0 .byte 16 [(.int 60), (.int x1), (.int 62), (.int x2), (.int x3), (.int x4), iZ, iZ, iZ, iZ, iZ, iZ, iZ, iZ, iZ, iZ] iZ) (z5 : Fld Z h0 a1 s1 "coder" "B" iZ) (SgCS : Sta Z Z.heap s0 s3 "Z" (.int gCS)) (NgCS : ¬ (gCS = (0 : Int32))) (z6 : Z.heap.size ≤ a1) (z7 : Z.heap.size ≤ a2) :
    CtrN l Z mn15 jdk_68_method_31_code 2 (some (.object s1)) [] (⟨1, 0, 0, 14⟩ : Room) #[(.ref a1), (.int 62)] h0 [a1, a2] (fun v h => Fld Z h a1 s1 "count" "I" (.int 7) ∧ Fld Z h a1 s1 "value" "[B" (.ref a2) ∧ Arv Z h a2 z0 .byte 16 [(.int 60), (.int x1), (.int 62), (.int x2), (.int x3), (.int x4), (.int 62), iZ, iZ, iZ, iZ, iZ, iZ, iZ, iZ, iZ] iZ ∧ Fld Z h a1 s1 "coder" "B" iZ ∧ v = some (.ref a1)) := by
  refine CtrN.intro (L0 := #[vr a1, vi 62]) (plainFor_of_name pn1) O0 (own_entry rfl) ?_
  intro p e s m below meth c T0 hy hml hret hlk hnm W0
  refine o_aloadN W0 1 (hb hy d20_0) rfl rfl rfl <| o_aloadN W0 2 (hb hy d20_1) rfl rfl rfl ?_
  refine o_getF W0 (w87 hw) Via.refl z1 5 (hb hy d20_2) rfl ?_
  intro T1 W1
  refine o_iconst W1 (v := 1) 6 (hb hy d20_5) rfl rfl <| o_iadd W1 (v := 7) 7 (hb hy d20_6) (by decide) rfl ?_
  refine o_privateC W1 (w89 hw) (w90 hw) (w92 hw) (w91 hw) (w93 hw) (by decide) z2 (w51 hw) (rm147 l hw a1 a2 z0 x1 x2 x3 x4 h0 W1.old z3 z4 z5) 0 0 0 (by decide) (by rw [hml]; rfl) (lenOf pd2 rfl) [] rfl rfl 10 (hb hy d20_7) rfl rfl rfl all0 tri ?_
  intro v2 T2 h2 lo2 W2 K2 q2
  obtain rfl := q2.2.2
  show Gl _ _ _ _ _ _ _ _ []
  refine o_aloadN W2 11 (hb hy d20_10) rfl rfl rfl ?_
  have c3 := (z5.keep K2 nin0)
  have c4 := (z2.keep K2)
  refine o_virtualC W2 (w123 hw) (w124 hw) (o_nf W2 rfl (w126 hw)) (w126 hw) (w125 hw) (by decide) c4 (w127 hw) (w51 hw) (rm21 l hw gCS a1 h2 W2.old SgCS NgCS c3) 0 0 0 (by decide) (by rw [hml]; rfl) (lenOf pd11 rfl) [] rfl rfl 14 (hb hy d20_11) rfl rfl rfl all0 tri ?_
  intro v5 T5 h5 lo5 W5 K5 q5
  obtain rfl := q5.2.2
  show Gl _ _ _ _ _ _ _ _ [(.int 1)]
  refine o_ifN W5 17 (hb hy d20_14) (XT.i0_eq_f (by decide)) rfl <| o_iloadN W5 18 (hb hy d20_17) rfl rfl ?_
  refine o_staticC W5 (w128 hw) (w129 hw) (w130 hw) (w131 hw) (by decide) (rm22 l hw  h5 W5.old ) 0 0 0 (by decide) (by rw [hml]; rfl) (lenOf pd12 rfl) [] rfl rfl 21 (hb hy d20_18) rfl rfl rfl all0 tri ?_
  intro v6 T6 h6 lo6 W6 K6 q6
  obtain rfl := q6.2.2
  show Gl _ _ _ _ _ _ _ _ [(.int 1)]
  refine o_ifN W6 24 (hb hy d20_21) (XT.i0_eq_f (by decide)) rfl <| o_aloadN W6 25 (hb hy d20_24) rfl rfl rfl ?_
  have c7 := (((z3.keep K2 nin0).keep K5 nin0).keep K6 nin0)
  refine o_getF W6 (w55 hw) Via.refl c7 28 (hb hy d20_25) rfl ?_
  intro T8 W8
  refine o_aloadN W8 29 (hb hy d20_28) rfl rfl rfl <| o_dup W8 30 (hb hy d20_29) rfl rfl ?_
  have c9 := (((z1.keep K2 nin0).keep K5 nin0).keep K6 nin0)
  refine o_getF W8 (w87 hw) Via.refl c9 33 (hb hy d20_30) rfl ?_
  intro T10 W10
  refine o_dupX1 W10 34 (hb hy d20_33) rfl rfl rfl <| o_iconst W10 (v := 1) 35 (hb hy d20_34) rfl rfl <| o_iadd W10 (v := 7) 36 (hb hy d20_35) (by decide) rfl ?_
  have c11 := ((c4.keep K5).keep K6)
  refine o_putF W10 (w87 hw) Via.refl c9 c11 (Or.inl (w88 hw)) (w42 hw) (ty := .int) (v' := (.int 7)) (by decide) rfl rfl z6 m0 tri 39 (hb hy d20_36) rfl ?_
  intro T12 h12 lo12 W12 R12
  have F12 := c9.same R12
  refine o_iloadN W12 40 (hb hy d20_39) rfl rfl <| o_i2b W12 (v := 62) 41 (hb hy d20_40) (by decide) rfl ?_
  have c13 := (c11.wr R12)
  have c14 := (((z4.keep K2 nin0).keep K5 nin0).keep K6 nin0)
  have c15 := ((((z4.keep K2 nin0).keep K5 nin0).keep K6 nin0).other R12 (Ne.symm (Exa.neArv c11 c14 (w42 hw))))
  refine o_stB W12 c15 (i := 6) (x' := (62 : Int32)) (by decide) (by decide) (by decide) (Nat.lt_of_sub_eq_succ rfl) (by decide) (vs' := [(.int 60), (.int x1), (.int 62), (.int x2), (.int x3), (.int x4), (.int 62), iZ, iZ, iZ, iZ, iZ, iZ, iZ, iZ, iZ]) rfl z7 (Or.inl (List.mem_of_getElem? (i := 1) rfl)) tri 42 (hb hy d20_41) rfl ?_
  intro T16 h16 lo16 W16 R16 V16
  refine o_goto W16 75 (hb hy d20_42) (by decide) rfl <| o_aloadN W16 76 (hb hy d20_75) rfl rfl rfl ?_
  have c17 := (c13.wr R16)
  have c18 := (F12.other R16 (Or.inl (Exa.neArv c13 c15 (w42 hw))))
  have c19 := ((c7.other R12 (Or.inr (slot_ne (Or.inl (w56 hw)) (Or.inl (w88 hw)) (by decide) (t := (.array .byte)) (t' := .int) (by decide) (by decide)))).other R16 (Or.inl (Exa.neArv c13 c15 (w42 hw))))
  have c20 := ((((c3.keep K5 nin0).keep K6 nin0).other R12 (Or.inr (slot_ne (Or.inl (w58 hw)) (Or.inl (w88 hw)) (by decide) (t := .byte) (t' := .int) (by decide) (by decide)))).other R16 (Or.inl (Exa.neArv c13 c15 (w42 hw))))
  exact o_retA W16 hlk (v := (.ref a1)) hret rfl rfl (hb hy d20_76) (by decide) (by decide) ⟨c18, c19, V16, c20, rfl⟩
theorem rm149 (l : Launch) {Z a0} (hw : HW Z a0) (gCS : Int32) (a1 a2 : Addr) (z0 : ClassId) (x1 x2 x3 x4 : Int32) (h0 : Heap) (O0 : Old Z Z.heap.size h0) (z1 : Fld Z h0 a1 s1 "count" "I" (.int 6)) (z2 : Exa Z h0 a1 s2) (z3 : Fld Z h0 a1 s1 "value" "[B" (.ref a2)) (z4 : Arv Z h0 a2 z0 .byte 16 [(.int 60), (.int x1), (.int 62), (.int x2), (.int x3), (.int x4), iZ, iZ, iZ, iZ, iZ, iZ, iZ, iZ, iZ, iZ] iZ) (z5 : Fld Z h0 a1 s1 "coder" "B" iZ) (SgCS : Sta Z Z.heap s0 s3 "Z" (.int gCS)) (NgCS : ¬ (gCS = (0 : Int32))) (z6 : Z.heap.size ≤ a1) (z7 : Z.heap.size ≤ a2) :
    CtrN l Z mn16 jdk_67_method_14_code 2 (some (.object s2)) [] (⟨2, 0, 0, 27⟩ : Room) #[(.ref a1), (.int 62)] h0 [a2, a1] (fun v h => Fld Z h a1 s1 "count" "I" (.int 7) ∧ Fld Z h a1 s1 "value" "[B" (.ref a2) ∧ Arv Z h a2 z0 .byte 16 [(.int 60), (.int x1), (.int 62), (.int x2), (.int x3), (.int x4), (.int 62), iZ, iZ, iZ, iZ, iZ, iZ, iZ, iZ, iZ] iZ ∧ Fld Z h a1 s1 "coder" "B" iZ ∧ v = some (.ref a1)) := by
  refine CtrN.intro (L0 := #[vr a1, vi 62]) (plainFor_of_name pn2) O0 (own_entry rfl) ?_
  intro p e s m below meth c T0 hy hml hret hlk hnm W0
  refine o_aloadN W0 1 (hb hy d19_0) rfl rfl rfl <| o_iloadN W0 2 (hb hy d19_1) rfl rfl ?_
  refine o_superC W0 (by decide) (w119 hw) (w120 hw) (own_sameN (y := mn15) (y2 := mn7) (by decide) (w120 hw) rfl (w90 hw) (w92 hw)) (w74 hw) (w122 hw) (Ins.self z2) (w51 hw) (rm148 l hw gCS a1 a2 z0 x1 x2 x3 x4 h0 W0.old z1 z2 z3 z4 z5 SgCS NgCS z6 z7) 0 0 0 (by decide) (by rw [hml]; rfl) (lenOf pd13 rfl) [] rfl rfl 5 (hb hy d19_2) rfl rfl rfl (allS ⟨z6, (Or.inl (List.mem_of_getElem? (i := 1) rfl))⟩ (allS ⟨z7, m0⟩ all0)) tri ?_
  intro v1 T1 h1 lo1 W1 K1 q1
  obtain ⟨P1_0, P1_1, P1_2, P1_3, rfl⟩ := q1.2.2
  show Gl _ _ _ _ _ _ _ _ [(.ref a1)]
  refine o_pop W1 6 (hb hy d19_5) rfl rfl <| o_aloadN W1 7 (hb hy d19_6) rfl rfl rfl ?_
  have c2 := (z2.keep K1)
  exact o_retA W1 hlk (v := (.ref a1)) hret rfl rfl (hb hy d19_7) (by decide) (by decide) ⟨P1_0, P1_1, P1_2, P1_3, rfl⟩
theorem rm150 (l : Launch) {Z a0} (hw : HW Z a0) (gCS : Int32) (a1 a2 a3 a4 : Addr) (z0 : ClassId) (x1 : Int32) (a5 : Addr) (z1 : ClassId) (x2 : Int32) (h0 : Heap) (O0 : Old Z Z.heap.size h0) (z2 : Fld Z h0 a1 s4 "out" s5 (.ref a3)) (z3 : Exa Z h0 a3 s2) (SgCS : Sta Z Z.heap s0 s3 "Z" (.int gCS)) (NgCS : ¬ (gCS = (0 : Int32))) (z4 : Fld Z h0 a3 s1 "count" "I" (.int 3)) (z5 : Fld Z h0 a3 s1 "value" "[B" (.ref a4)) (z6 : Arv Z h0 a4 z0 .byte 16 [(.int 60), (.int x1), (.int 62), iZ, iZ, iZ, iZ, iZ, iZ, iZ, iZ, iZ, iZ, iZ, iZ, iZ] iZ) (z7 : Fld Z h0 a3 s1 "coder" "B" iZ) (z8 : Z.heap.size ≤ a4) (z9 : Z.heap.size ≤ a3) (z10 : Exa Z h0 a2 s0) (z11 : Fld Z h0 a2 s0 "value" "[B" (.ref a5)) (z12 : Arv Z h0 a5 z1 .byte 1 [(.int (b8 x2))] iZ) (z13 : a4 ≠ a5) (z14 : Fld Z h0 a2 s0 "coder" "B" iZ) :
    CtrW l Z consts_1 mn17 prog_5_method_3_code 2 (some (.object s4)) [] (⟨5, 2, 12, 83⟩ : Room) #[(.ref a1), (.ref a2)] h0 [a4, a3] (fun v h => Fld Z h a3 s1 "count" "I" (.int 7) ∧ Fld Z h a3 s1 "value" "[B" (.ref a4) ∧ Arv Z h a4 z0 .byte 16 [(.int 60), (.int x1), (.int 62), (.int (b8 60)), (.int (b8 47)), (.int (b8 x2)), (.int 62), iZ, iZ, iZ, iZ, iZ, iZ, iZ, iZ, iZ] iZ ∧ Fld Z h a3 s1 "coder" "B" iZ ∧ v = some (.ref a1)) := by
  refine CtrW.intro (L0 := #[vr a1, vr a2]) (plainFor_of_name pn3) O0 (own_entry rfl) ?_
  intro p e s m below meth c T0 V0 hy hml hret hlk hnm W0
  refine o_aloadN W0 1 (hb hy d10_0) rfl rfl rfl ?_
  refine o_getF W0 (w59 hw) Via.refl z2 4 (hb hy d10_1) rfl ?_
  intro T1 W1
  refine o_ldcR W1 (w66 hw) (own_wS hw) (own_EL hw) (by simp [consts_1]) 6 (hb hy d10_4) rfl (n := 8) (by decide) (by decide) (cells' := 2) (slots' := 12) rfl rfl (by decide) (by decide) (vs := [(.int (b8 60)), (.int (b8 47))]) (z := (2 : Int32)) ⟨by decide, by decide⟩ (by decide) (by decide) ?_
  intro s2 T2 h2 V2 t2 k2 W2 E2 C2 X2 Fc2 Fv2 A2 ns2
  have c3 := (z3.ext E2)
  have c4 := (z4.ext E2)
  have c5 := (z5.ext E2)
  have c6 := (z6.ext E2)
  have c7 := (z7.ext E2)
  refine o_virtualC W2 (w67 hw) (w68 hw) (o_nf W2 rfl (w70 hw)) (w70 hw) (w69 hw) (by decide) c3 (w71 hw) (w43 hw) (rm125 l hw gCS a3 s2 t2 k2 a4 z0 x1 h2 W2.old X2 Fv2 A2 SgCS NgCS Fc2 c4 c3 c5 c6 c7 z8 z9) 0 2 12 (by decide) (by rw [hml]; rfl) (lenOf pd10 rfl) [] rfl rfl 9 (hb hy d10_6) rfl rfl rfl (allS ⟨z9, (Or.inl (List.mem_of_getElem? (i := 1) rfl))⟩ (allS ⟨z8, m0⟩ all0)) (fun _ K => IW.keep K (sfS (Safe.exa W2.al c3 (by decide) (by decide)) (sfS (own_safeB W2.2.2.2.1 (n := 16) (by decide) (own_EL16 hw) c6) sf0)) W2.inv) ?_
  intro v8 T8 h8 lo8 W8 K8 q8
  obtain ⟨P8_0, P8_1, P8_2, P8_3, rfl⟩ := q8.2.2
  show Gl _ _ _ _ _ _ _ _ [(.ref a3)]
  refine o_aloadN W8 10 (hb hy d10_9) rfl rfl rfl ?_
  have c9 := ((z10.ext E2).keep K8)
  have c10 := (z10.ext E2)
  have c11 := (c3.keep K8)
  have c12 := ((z11.ext E2).keep K8 (ninS (Exa.ne c10 c3 (by decide)) (ninS (Exa.neArv c10 c6 (w2 hw)) nin0)))
  have c13 := (z12.ext E2)
  have c14 := ((z12.ext E2).keep K8 (ninS (Ne.symm (Exa.neArv c3 c13 (w42 hw))) (ninS (Ne.symm z13) nin0)))
  have c15 := ((z14.ext E2).keep K8 (ninS (Exa.ne c10 c3 (by decide)) (ninS (Exa.neArv c10 c6 (w2 hw)) nin0)))
  refine o_virtualC W8 (w67 hw) (w68 hw) (o_nf W8 rfl (w70 hw)) (w70 hw) (w69 hw) (by decide) c11 (w71 hw) (w43 hw) (rm146 l hw gCS a3 a2 a5 z1 x2 a4 z0 x1 (b8 60) (b8 47) h8 W8.old c9 c12 c14 SgCS NgCS c15 P8_0 c11 P8_1 P8_2 P8_3 z8 z9) 0 2 12 (by decide) (by rw [hml]; rfl) (lenOf pd10 rfl) [] rfl rfl 13 (hb hy d10_10) rfl rfl rfl (allS ⟨z9, (Or.inl (List.mem_of_getElem? (i := 1) rfl))⟩ (allS ⟨z8, m0⟩ all0)) (fun _ K => IW.keep K (sfS (Safe.exa W8.al c11 (by decide) (by decide)) (sfS (own_safeB W8.2.2.2.1 (n := 16) (by decide) (own_EL16 hw) P8_2) sf0)) W8.inv) ?_
  intro v16 T16 h16 lo16 W16 K16 q16
  obtain ⟨P16_0, P16_1, P16_2, P16_3, rfl⟩ := q16.2.2
  show Gl _ _ _ _ _ _ _ _ [(.ref a3)]
  refine o_bipush W16 (v := 62) 15 (hb hy d10_13) (by decide) rfl ?_
  have c17 := (c11.keep K16)
  refine o_virtualC W16 (w114 hw) (w115 hw) (o_nf W16 rfl (w117 hw)) (w117 hw) (w116 hw) (by decide) c17 (w118 hw) (w43 hw) (rm149 l hw gCS a3 a4 z0 x1 (b8 60) (b8 47) (b8 x2) h16 W16.old P16_0 c17 P16_1 P16_2 P16_3 SgCS NgCS z9 z8) 0 2 12 (by decide) (by rw [hml]; rfl) (lenOf pd14 rfl) [] rfl rfl 18 (hb hy d10_15) rfl rfl rfl (allS ⟨z8, m0⟩ (allS ⟨z9, (Or.inl (List.mem_of_getElem? (i := 1) rfl))⟩ all0)) (fun _ K => IW.keep K (sfS (own_safeB W16.2.2.2.1 (n := 16) (by decide) (own_EL16 hw) P16_2) (sfS (Safe.exa W16.al c17 (by decide) (by decide)) sf0)) W16.inv) ?_
  intro v18 T18 h18 lo18 W18 K18 q18
  obtain ⟨P18_0, P18_1, P18_2, P18_3, rfl⟩ := q18.2.2
  show Gl _ _ _ _ _ _ _ _ [(.ref a3)]
  refine o_pop W18 19 (hb hy d10_18) rfl rfl <| o_aloadN W18 20 (hb hy d10_19) rfl rfl rfl ?_
  have c19 := (c17.keep K18)
  exact o_retAW W18 (own_EL hw) hlk (v := (.ref a1)) hret rfl rfl (hb hy d10_20) (by decide) (by decide) ⟨P18_0, P18_1, P18_2, P18_3, rfl⟩
theorem rm151 (l : Launch) {Z a0} (hw : HW Z a0) (a1 : Addr) (h0 : Heap) (O0 : Old Z Z.heap.size h0) (z0 : Fld Z h0 a1 s1 "count" "I" (.int 7)) :
    CtrN l Z mn19 jdk_68_method_6_code 1 (some .int) [] (⟨0, 0, 0, 0⟩ : Room) #[(.ref a1)] h0 [] (fun v h => v = some (.int 7)) := by
  refine CtrN.intro (L0 := #[vr a1]) (plainFor_of_name pn1) O0 (own_entry rfl) ?_
  intro p e s m below meth c T0 hy hml hret hlk hnm W0
  refine o_aloadN W0 1 (hb hy d29_0) rfl rfl rfl ?_
  refine o_getF W0 (w87 hw) Via.refl z0 4 (hb hy d29_1) rfl ?_
  intro T1 W1
  exact o_retI W1 hlk hret (hb hy d29_4) (by decide) (by decide) rfl
theorem rm152 (l : Launch) {Z a0} (hw : HW Z a0) (a1 : Addr) (h0 : Heap) (O0 : Old Z Z.heap.size h0) (z0 : Fld Z h0 a1 s1 "count" "I" (.int 7)) (z1 : Exa Z h0 a1 s2) :
    CtrN l Z mn20 jdk_67_method_93_code 1 (some .int) [] (⟨1, 0, 0, 12⟩ : Room) #[(.ref a1)] h0 [] (fun v h => v = some (.int 7)) := by
  refine CtrN.intro (L0 := #[vr a1]) (plainFor_of_name pn2) O0 (own_entry rfl) ?_
  intro p e s m below meth c T0 hy hml hret hlk hnm W0
  refine o_aloadN W0 1 (hb hy d28_0) rfl rfl rfl ?_
  refine o_superC W0 (by decide) (w160 hw) (w156 hw) (own_sameN (y := mn19) (y2 := mn7) (by decide) (w156 hw) rfl (w90 hw) (w92 hw)) (w74 hw) (w161 hw) (Ins.self z1) (w51 hw) (rm151 l hw a1 h0 W0.old z0) 0 0 0 (by decide) (by rw [hml]; rfl) (lenOf pd5 rfl) [] rfl rfl 4 (hb hy d28_1) rfl rfl rfl all0 tri ?_
  intro v1 T1 h1 lo1 W1 K1 q1
  obtain rfl := q1.2.2
  show Gl _ _ _ _ _ _ _ _ [(.int 7)]
  exact o_retI W1 hlk hret (hb hy d28_4) (by decide) (by decide) rfl
theorem rm153 (l : Launch) {Z a0} (hw : HW Z a0)  (h0 : Heap) (O0 : Old Z Z.heap.size h0) :
    CtrN l Z mn21 jdk_65_method_131_code 2 none [] (⟨0, 0, 0, 0⟩ : Room) #[iZ, (.int 7)] h0 [] (fun v h => v = none) := by
  refine CtrN.intro (L0 := #[vi 0, vi 7]) (plainFor_of_name pn5) O0 (own_entry rfl) ?_
  intro p e s m below meth c T0 hy hml hret hlk hnm W0
  refine o_iloadN W0 1 (hb hy d32_0) rfl rfl <| o_iloadN W0 2 (hb hy d32_1) rfl rfl <| o_icmpY W0 37 (hb hy d32_2) (XT.ii_ge_t (by decide)) (by decide) rfl ?_
  exact o_ret0 W0 hlk hret (hb hy d32_37) (by decide) (by decide) rfl
theorem rm154 (l : Launch) {Z a0} (hw : HW Z a0)  (h0 : Heap) (O0 : Old Z Z.heap.size h0) :
    CtrN l Z mn22 jdk_29_method_69_code 2 (some .int) [] (⟨0, 0, 0, 0⟩ : Room) #[(.int 16), (.int 7)] h0 [] (fun v h => v = some (.int 7)) := by
  refine CtrN.intro (L0 := #[vi 16, vi 7]) (Jvm.Free.JP.mathPlain rfl (by decide +kernel)) O0 (own_entry rfl) ?_
  intro p e s m below meth c T0 hy hml hret hlk hnm W0
  refine o_iloadN W0 1 (hb hy d33_0) rfl rfl <| o_iloadN W0 2 (hb hy d33_1) rfl rfl <| o_icmpY W0 9 (hb hy d33_2) (XT.ii_gt_t (by decide)) (by decide) rfl <| o_iloadN W0 10 (hb hy d33_9) rfl rfl ?_
  exact o_retI W0 hlk hret (hb hy d33_10) (by decide) (by decide) rfl
theorem rm155 (l : Launch) {Z a0} (hw : HW Z a0) (a1 : Addr) (z0 : ClassId) (x1 x2 x3 x4 : Int32) (h0 : Heap) (O0 : Old Z Z.heap.size h0) (z1 : Arv Z h0 a1 z0 .byte 16 [(.int 60), (.int x1), (.int 62), (.int x2), (.int x3), (.int x4), (.int 62), iZ, iZ, iZ, iZ, iZ, iZ, iZ, iZ, iZ] iZ) :
    CtrN l Z mn23 jdk_65_method_133_code 5 (some (.array .byte)) [] (⟨1, 1, 7, 27⟩ : Room) #[(.ref a1), iZ, (.int 7)] h0 [] (fun v h => ∃ r1 : Addr, ∃ r2 : ClassId, h0.size ≤ r1 ∧ Arv Z h r1 r2 .byte 7 [(.int 60), (.int x1), (.int 62), (.int x2), (.int x3), (.int x4), (.int 62)] iZ ∧ v = some (.ref r1)) := by
  refine CtrN.intro (L0 := #[vr a1, vi 0, vi 7, un, un]) (plainFor_of_name pn5) O0 (own_entry rfl) ?_
  intro p e s m below meth c T0 hy hml hret hlk hnm W0
  refine o_iloadN W0 1 (hb hy d31_0) rfl rfl <| o_iloadN W0 2 (hb hy d31_1) rfl rfl ?_
  refine o_staticC W0 (w170 hw) (w171 hw) (w165 hw) (w172 hw) (by decide) (rm153 l hw  h0 W0.old ) 0 0 0 (by decide) (by rw [hml]; rfl) (lenOf pd17 rfl) [] rfl rfl 5 (hb hy d31_2) rfl rfl rfl all0 tri ?_
  intro v1 T1 h1 lo1 W1 K1 q1
  obtain rfl := q1.2.2
  show Gl _ _ _ _ _ _ _ _ []
  refine o_iloadN W1 6 (hb hy d31_5) rfl rfl <| o_iloadN W1 7 (hb hy d31_6) rfl rfl <| o_isub W1 (v := 7) 8 (hb hy d31_7) (by decide) rfl <| o_istoreN W1 (L' := #[vr a1, vi 0, vi 7, vi 7, un]) 9 (hb hy d31_8) rfl rfl <| o_iloadN W1 10 (hb hy d31_9) rfl rfl ?_
  refine o_newP W1 (aty := .byte) (w15 hw) tri (by decide) (cap := 7) (by decide) (by decide) 12 (hb hy d31_10) rfl (cells' := 1) (slots' := 7) rfl rfl (by decide) (by decide) (vs := [iZ, iZ, iZ, iZ, iZ, iZ, iZ]) (dv := iZ) rfl rfl ?_
  intro b2 T2 h2 k2 W2 E2 ge2 gz2 gb2 V2
  refine o_astore W2 (L' := #[vr a1, vi 0, vi 7, vi 7, vr b2]) 14 (hb hy d31_12) rfl rfl rfl <| o_aloadN W2 15 (hb hy d31_14) rfl rfl rfl <| o_iloadN W2 16 (hb hy d31_15) rfl rfl <| o_aload W2 18 (hb hy d31_16) rfl rfl rfl <| o_iconst W2 (v := 0) 19 (hb hy d31_18) rfl rfl <| o_aloadN W2 20 (hb hy d31_19) rfl rfl rfl ?_
  have c3 := ((z1.keep K1 nin0).ext E2)
  refine o_len W2 c3 21 (hb hy d31_20) rfl <| o_iloadN W2 22 (hb hy d31_21) rfl rfl <| o_isub W2 (v := 16) 23 (hb hy d31_22) (by decide) rfl <| o_iloadN W2 24 (hb hy d31_23) rfl rfl ?_
  refine o_staticC W2 (w173 hw) (w174 hw) (w175 hw) (w176 hw) (by decide) (rm154 l hw  h2 W2.old ) 4 1 7 (by decide) (by rw [hml]; rfl) (lenOf pd18 rfl) [iZ, (.ref b2), iZ, (.ref a1)] rfl rfl 27 (hb hy d31_24) rfl rfl rfl all0 tri ?_
  intro v4 T4 h4 lo4 W4 K4 q4
  obtain rfl := q4.2.2
  show Gl _ _ _ _ _ _ _ _ [(.int 7), iZ, (.ref b2), iZ, (.ref a1)]
  have c5 := (c3.keep K4 nin0)
  have c6 := (V2.keep K4 nin0)
  refine o_copy W4 (w177 hw) (w113 hw) (w111 hw) (w112 hw) c5 c6 (us := [(.int 60), (.int x1), (.int 62), (.int x2), (.int x3), (.int x4), (.int 62)]) (Or.inl ⟨rfl, rfl⟩) (by decide) (by decide) (by decide) (by decide) (by decide) rfl (Nat.le_of_ble_eq_true rfl) (vd' := [(.int 60), (.int x1), (.int 62), (.int x2), (.int x3), (.int x4), (.int 62)]) rfl gz2 (Or.inr gb2) tri (by rw [hml]; rfl) 30 (hb hy d31_27) rfl (by decide) 0 (by exact Nat.le_of_eq rfl) (by decide) ?_
  intro T7 h7 lo7 W7 K7 V7
  refine o_aload W7 32 (hb hy d31_30) rfl rfl rfl ?_
  exact o_retA W7 hlk (v := (.ref b2)) hret rfl rfl (hb hy d31_32) (by decide) (by decide) ⟨b2, k2, gb2, V7, rfl⟩
theorem rm156 (l : Launch) {Z a0} (hw : HW Z a0) (a1 : Addr) (z0 : ClassId) (x1 x2 x3 x4 : Int32) (h0 : Heap) (O0 : Old Z Z.heap.size h0) (z1 : Arv Z h0 a1 z0 .byte 16 [(.int 60), (.int x1), (.int 62), (.int x2), (.int x3), (.int x4), (.int 62), iZ, iZ, iZ, iZ, iZ, iZ, iZ, iZ, iZ] iZ) :
    CtrN l Z mn24 jdk_65_method_132_code 3 (some (.array .byte)) [] (⟨2, 1, 7, 43⟩ : Room) #[(.ref a1), iZ, (.int 7)] h0 [] (fun v h => ∃ r1 : Addr, ∃ r2 : ClassId, h0.size ≤ r1 ∧ Arv Z h r1 r2 .byte 7 [(.int 60), (.int x1), (.int 62), (.int x2), (.int x3), (.int x4), (.int 62)] iZ ∧ v = some (.ref r1)) := by
  refine CtrN.intro (L0 := #[vr a1, vi 0, vi 7]) (plainFor_of_name pn5) O0 (own_entry rfl) ?_
  intro p e s m below meth c T0 hy hml hret hlk hnm W0
  refine o_iloadN W0 1 (hb hy d30_0) rfl rfl <| o_ifN W0 4 (hb hy d30_1) (XT.i0_ne_f (by decide)) rfl <| o_iloadN W0 5 (hb hy d30_4) rfl rfl <| o_aloadN W0 6 (hb hy d30_5) rfl rfl rfl <| o_len W0 z1 7 (hb hy d30_6) rfl <| o_icmpN W0 10 (hb hy d30_7) (XT.ii_eq_f (by decide)) rfl ?_
  refine o_aloadN W0 11 (hb hy d30_10) rfl rfl rfl <| o_iloadN W0 12 (hb hy d30_11) rfl rfl <| o_iloadN W0 13 (hb hy d30_12) rfl rfl ?_
  refine o_staticC W0 (w167 hw) (w168 hw) (w165 hw) (w169 hw) (by decide) (rm155 l hw a1 z0 x1 x2 x3 x4 h0 W0.old z1) 0 1 7 (by decide) (by rw [hml]; rfl) (lenOf pd19 rfl) [] rfl rfl 16 (hb hy d30_13) rfl rfl rfl all0 tri ?_
  intro v1 T1 h1 lo1 W1 K1 q1
  obtain ⟨r1_1, r2_1, P1_0, P1_1, rfl⟩ := q1.2.2
  show Gl _ _ _ _ _ _ _ _ [(.ref r1_1)]
  exact o_retA W1 hlk (v := (.ref r1_1)) hret rfl rfl (hb hy d30_16) (by decide) (by decide) ⟨r1_1, r2_1, (Nat.le_trans W0.keep.1 P1_0), P1_1, rfl⟩
theorem rm157 (l : Launch) {Z a0} (hw : HW Z a0) (gCS : Int32) (a1 a2 a3 : Addr) (z0 : ClassId) (x1 x2 x3 x4 : Int32) (h0 : Heap) (O0 : Old Z Z.heap.size h0) (z1 : Exa Z h0 a2 s2) (z2 : Fld Z h0 a2 s1 "value" "[B" (.ref a3)) (z3 : Fld Z h0 a2 s1 "count" "I" (.int 7)) (SgCS : Sta Z Z.heap s0 s3 "Z" (.int gCS)) (NgCS : ¬ (gCS = (0 : Int32))) (z4 : Fld Z h0 a2 s1 "coder" "B" iZ) (z5 : Exa Z h0 a1 s0) (z6 : Fld Z h0 a1 s0 "coder" "B" iZ) (z7 : Z.heap.size ≤ a1) (z8 : Arv Z h0 a3 z0 .byte 16 [(.int 60), (.int x1), (.int 62), (.int x2), (.int x3), (.int x4), (.int 62), iZ, iZ, iZ, iZ, iZ, iZ, iZ, iZ, iZ] iZ) (z9 : Fld Z h0 a1 s0 "value" "[B" .null) :
    CtrN l Z mn25 jdk_42_method_150_code 5 none [] (⟨3, 1, 7, 58⟩ : Room) #[(.ref a1), (.ref a2), .null] h0 [a1] (fun v h => ∃ r1 : Addr, ∃ r2 : ClassId, h0.size ≤ r1 ∧ Fld Z h a1 s0 "coder" "B" iZ ∧ Fld Z h a1 s0 "value" "[B" (.ref r1) ∧ Arv Z h r1 r2 .byte 7 [(.int 60), (.int x1), (.int 62), (.int x2), (.int x3), (.int x4), (.int 62)] iZ ∧ v = none) := by
  refine CtrN.intro (L0 := #[vr a1, vr a2, .val .null, un, un]) (plainFor_of_name pn0) O0 (own_entry rfl) ?_
  intro p e s m below meth c T0 hy hml hret hlk hnm W0
  refine o_aloadN W0 1 (hb hy d26_0) rfl rfl rfl ?_
  refine o_initO W0 (w11 hw) (w12 hw) (w13 hw) (by rw [hml]; rfl) 4 (hb hy d26_1) rfl (by decide) 0 (by exact Nat.le_of_eq rfl) (by decide) ?_
  intro T1 W1
  refine o_aloadN W1 5 (hb hy d26_4) rfl rfl rfl ?_
  refine o_virtualC W1 (w149 hw) (w150 hw) (o_nf W1 rfl (w152 hw)) (w152 hw) (w151 hw) (by decide) z1 (w153 hw) (w51 hw) (rm26 l hw a2 a3 h0 W1.old z2) 0 0 0 (by decide) (by rw [hml]; rfl) (lenOf pd16 rfl) [] rfl rfl 8 (hb hy d26_5) rfl rfl rfl all0 tri ?_
  intro v2 T2 h2 lo2 W2 K2 q2
  obtain rfl := q2.2.2
  show Gl _ _ _ _ _ _ _ _ [(.ref a3)]
  refine o_astoreN W2 (L' := #[vr a1, vr a2, .val .null, vr a3, un]) 9 (hb hy d26_8) rfl rfl rfl <| o_aloadN W2 10 (hb hy d26_9) rfl rfl rfl ?_
  have c3 := (z3.keep K2 nin0)
  have c4 := (z1.keep K2)
  refine o_virtualC W2 (w154 hw) (w155 hw) (o_nf2 W2 (y2 := mn7) rfl (w90 hw) (w92 hw)) (w157 hw) (w158 hw) (by decide) c4 (w159 hw) (w43 hw) (rm152 l hw a2 h2 W2.old c3 c4) 0 0 0 (by decide) (by rw [hml]; rfl) (lenOf pd5 rfl) [] rfl rfl 13 (hb hy d26_10) rfl rfl rfl all0 tri ?_
  intro v5 T5 h5 lo5 W5 K5 q5
  obtain rfl := q5.2.2
  show Gl _ _ _ _ _ _ _ _ [(.int 7)]
  refine o_istore W5 (L' := #[vr a1, vr a2, .val .null, vr a3, vi 7]) 15 (hb hy d26_13) rfl rfl <| o_aloadN W5 16 (hb hy d26_15) rfl rfl rfl ?_
  have c6 := ((z4.keep K2 nin0).keep K5 nin0)
  have c7 := (c4.keep K5)
  refine o_virtualC W5 (w162 hw) (w124 hw) (o_nf W5 rfl (w126 hw)) (w126 hw) (w125 hw) (by decide) c7 (w127 hw) (w51 hw) (rm21 l hw gCS a2 h5 W5.old SgCS NgCS c6) 0 0 0 (by decide) (by rw [hml]; rfl) (lenOf pd11 rfl) [] rfl rfl 19 (hb hy d26_16) rfl rfl rfl all0 tri ?_
  intro v8 T8 h8 lo8 W8 K8 q8
  obtain rfl := q8.2.2
  show Gl _ _ _ _ _ _ _ _ [(.int 1)]
  refine o_ifN W8 22 (hb hy d26_19) (XT.i0_eq_f (by decide)) rfl <| o_aloadN W8 23 (hb hy d26_22) rfl rfl rfl <| o_iconst W8 (v := 0) 24 (hb hy d26_23) rfl rfl ?_
  have c9 := (((z5.keep K2).keep K5).keep K8)
  have c10 := (((z6.keep K2 nin0).keep K5 nin0).keep K8 nin0)
  refine o_putF W8 (w21 hw) Via.refl c10 c9 (Or.inr ⟨(w17 hw), rfl, hnm⟩) (w2 hw) (ty := .byte) (v' := iZ) (by decide) rfl (by decide) z7 m0 tri 27 (hb hy d26_24) rfl ?_
  intro T11 h11 lo11 W11 R11
  have F11 := c10.same R11
  refine o_aloadN W11 28 (hb hy d26_27) rfl rfl rfl <| o_aloadN W11 29 (hb hy d26_28) rfl rfl rfl <| o_iconst W11 (v := 0) 30 (hb hy d26_29) rfl rfl <| o_iload W11 32 (hb hy d26_30) rfl rfl ?_
  have c12 := (c9.wr R11)
  have c13 := (((z8.keep K2 nin0).keep K5 nin0).keep K8 nin0)
  have c14 := ((((z8.keep K2 nin0).keep K5 nin0).keep K8 nin0).other R11 (Ne.symm (Exa.neArv c9 c13 (w2 hw))))
  refine o_staticC W11 (w163 hw) (w164 hw) (w165 hw) (w166 hw) (by decide) (rm156 l hw a3 z0 x1 x2 x3 x4 h11 W11.old c14) 1 1 7 (by decide) (by rw [hml]; rfl) (lenOf pd19 rfl) [(.ref a1)] rfl rfl 35 (hb hy d26_32) rfl rfl rfl all0 tri ?_
  intro v15 T15 h15 lo15 W15 K15 q15
  obtain ⟨r1_15, r2_15, P15_0, P15_1, rfl⟩ := q15.2.2
  show Gl _ _ _ _ _ _ _ _ [(.ref r1_15), (.ref a1)]
  have c16 := (c12.keep K15)
  have c17 := (((((z9.keep K2 nin0).keep K5 nin0).keep K8 nin0).other R11 (Or.inr (slot_ne (Or.inr (w16 hw)) (Or.inr (w17 hw)) (by decide) (t := (.array .byte)) (t' := .byte) (by decide) (by decide)))).keep K15 nin0)
  refine o_putF W15 (w20 hw) Via.refl c17 c16 (Or.inr ⟨(w16 hw), rfl, hnm⟩) (w2 hw) (ty := (.array .byte)) (v' := (.ref r1_15)) (by decide) rfl rfl z7 m0 tri 38 (hb hy d26_35) rfl ?_
  intro T18 h18 lo18 W18 R18
  have F18 := c17.same R18
  refine o_goto W18 97 (hb hy d26_38) (by decide) rfl ?_
  have c19 := ((F11.keep K15 nin0).other R18 (Or.inr (slot_ne (Or.inr (w17 hw)) (Or.inr (w16 hw)) (by decide) (t := .byte) (t' := (.array .byte)) (by decide) (by decide))))
  have c20 := (c16.wr R18)
  have c21 := (P15_1.other R18 (own_ne' c12.lt P15_0))
  exact o_ret0 W18 hlk hret (hb hy d26_97) (by decide) (by decide) ⟨r1_15, r2_15, (Nat.le_trans W11.keep.1 P15_0), c19, F18, c21, rfl⟩
theorem rm158 (l : Launch) {Z a0} (hw : HW Z a0) (gCS : Int32) (a1 a2 a3 : Addr) (z0 : ClassId) (x1 x2 x3 x4 : Int32) (h0 : Heap) (O0 : Old Z Z.heap.size h0) (z1 : Exa Z h0 a2 s2) (z2 : Fld Z h0 a2 s1 "value" "[B" (.ref a3)) (z3 : Fld Z h0 a2 s1 "count" "I" (.int 7)) (SgCS : Sta Z Z.heap s0 s3 "Z" (.int gCS)) (NgCS : ¬ (gCS = (0 : Int32))) (z4 : Fld Z h0 a2 s1 "coder" "B" iZ) (z5 : Exa Z h0 a1 s0) (z6 : Fld Z h0 a1 s0 "coder" "B" iZ) (z7 : Arv Z h0 a3 z0 .byte 16 [(.int 60), (.int x1), (.int 62), (.int x2), (.int x3), (.int x4), (.int 62), iZ, iZ, iZ, iZ, iZ, iZ, iZ, iZ, iZ] iZ) (z8 : Fld Z h0 a1 s0 "value" "[B" .null) (z9 : Z.heap.size ≤ a1) :
    CtrN l Z mn26 jdk_42_method_53_code 2 none [] (⟨4, 1, 7, 74⟩ : Room) #[(.ref a1), (.ref a2)] h0 [a1] (fun v h => ∃ r1 : Addr, ∃ r2 : ClassId, h0.size ≤ r1 ∧ Fld Z h a1 s0 "coder" "B" iZ ∧ Fld Z h a1 s0 "value" "[B" (.ref r1) ∧ Arv Z h r1 r2 .byte 7 [(.int 60), (.int x1), (.int 62), (.int x2), (.int x3), (.int x4), (.int 62)] iZ ∧ v = none) := by
  refine CtrN.intro (L0 := #[vr a1, vr a2]) (plainFor_of_name pn0) O0 (own_entry rfl) ?_
  intro p e s m below meth c T0 hy hml hret hlk hnm W0
  refine o_aloadN W0 1 (hb hy d25_0) rfl rfl rfl <| o_aloadN W0 2 (hb hy d25_1) rfl rfl rfl ?_
  refine o_aconstNull W0 3 (hb hy d25_2) rfl ?_
  refine o_specialC W0 rfl (w146 hw) (w147 hw) (w148 hw) (by decide) (w3 hw) (rm157 l hw gCS a1 a2 a3 z0 x1 x2 x3 x4 h0 W0.old z1 z2 z3 SgCS NgCS z4 z5 z6 z9 z7 z8) 0 1 7 (by decide) (by rw [hml]; rfl) (lenOf pd20 rfl) [] rfl rfl 6 (hb hy d25_3) rfl rfl rfl (allS ⟨z9, m0⟩ all0) tri ?_
  intro v1 T1 h1 lo1 W1 K1 q1
  obtain ⟨r1_1, r2_1, P1_0, P1_1, P1_2, P1_3, rfl⟩ := q1.2.2
  show Gl _ _ _ _ _ _ _ _ []
  have c2 := (z5.keep K1)
  exact o_ret0 W1 hlk hret (hb hy d25_6) (by decide) (by decide) ⟨r1_1, r2_1, (Nat.le_trans W0.keep.1 P1_0), P1_1, P1_2, P1_3, rfl⟩
theorem rm159 (l : Launch) {Z a0} (hw : HW Z a0) (gCS : Int32) (a1 a2 : Addr) (z0 : ClassId) (x1 x2 x3 x4 : Int32) (h0 : Heap) (O0 : Old Z Z.heap.size h0) (z1 : Exa Z h0 a1 s2) (z2 : Fld Z h0 a1 s1 "value" "[B" (.ref a2)) (z3 : Fld Z h0 a1 s1 "count" "I" (.int 7)) (SgCS : Sta Z Z.heap s0 s3 "Z" (.int gCS)) (NgCS : ¬ (gCS = (0 : Int32))) (z4 : Fld Z h0 a1 s1 "coder" "B" iZ) (z5 : Arv Z h0 a2 z0 .byte 16 [(.int 60), (.int x1), (.int 62), (.int x2), (.int x3), (.int x4), (.int 62), iZ, iZ, iZ, iZ, iZ, iZ, iZ, iZ, iZ] iZ) :
    CtrN l Z mn27 jdk_67_method_42_code 1 (some (.object s0)) [] (⟨5, 2, 11, 88⟩ : Room) #[(.ref a1)] h0 [] (fun v h => ∃ r1 : Addr, ∃ r2 : Addr, ∃ r3 : ClassId, h0.size ≤ r1 ∧ h0.size ≤ r2 ∧ Exa Z h r1 s0 ∧ Fld Z h r1 s0 "value" "[B" (.ref r2) ∧ Fld Z h r1 s0 "coder" "B" iZ ∧ Arv Z h r2 r3 .byte 7 [(.int 60), (.int x1), (.int 62), (.int x2), (.int x3), (.int x4), (.int 62)] iZ ∧ v = some (.ref r1)) := by
  refine CtrN.intro (L0 := #[vr a1]) (plainFor_of_name pn2) O0 (own_entry rfl) ?_
  intro p e s m below meth c T0 hy hml hret hlk hnm W0
  refine o_new W0 (w142 hw) (w2 hw) (w3 hw) tri 3 (hb hy d24_0) rfl (cells' := 1) (slots' := 4) rfl rfl (by decide) (by decide) ?_
  intro b1 T1 h1 W1 E1 ge1 gz1 gb1 A1 D1
  have Fb1_value : Fld Z h1 b1 s0 "value" "[B" .null := D1 (Or.inr (w16 hw)) (ty := (.array .byte)) (by decide)
  have Fb1_coder : Fld Z h1 b1 s0 "coder" "B" iZ := D1 (Or.inr (w17 hw)) (ty := .byte) (by decide)
  refine o_dup W1 4 (hb hy d24_3) rfl rfl <| o_aloadN W1 5 (hb hy d24_4) rfl rfl rfl ?_
  have c2 := (z1.ext E1)
  have c3 := (z2.ext E1)
  have c4 := (z3.ext E1)
  have c5 := (z4.ext E1)
  have c6 := (z5.ext E1)
  refine o_specialC W1 rfl (w143 hw) (w144 hw) (w145 hw) (by decide) (w3 hw) (rm158 l hw gCS b1 a1 a2 z0 x1 x2 x3 x4 h1 W1.old c2 c3 c4 SgCS NgCS c5 A1 Fb1_coder c6 Fb1_value gz1) 1 2 11 (by decide) (by rw [hml]; rfl) (lenOf pd21 rfl) [(.ref b1)] rfl rfl 8 (hb hy d24_5) rfl rfl rfl (allS ⟨gz1, (Or.inr gb1)⟩ all0) tri ?_
  intro v7 T7 h7 lo7 W7 K7 q7
  obtain ⟨r1_7, r2_7, P7_0, P7_1, P7_2, P7_3, rfl⟩ := q7.2.2
  show Gl _ _ _ _ _ _ _ _ [(.ref b1)]
  have c8 := (A1.keep K7)
  exact o_retA W7 hlk (v := (.ref b1)) hret rfl rfl (hb hy d24_8) (by decide) (by decide) ⟨b1, r1_7, r2_7, gb1, (Nat.le_trans W1.keep.1 P7_0), c8, P7_2, P7_1, P7_3, rfl⟩
theorem rm160 (l : Launch) {Z a0} (hw : HW Z a0) (gCS : Int32) (a1 a2 a3 : Addr) (z0 : ClassId) (x1 x2 x3 x4 : Int32) (h0 : Heap) (O0 : Old Z Z.heap.size h0) (z1 : Fld Z h0 a1 s4 "out" s5 (.ref a2)) (z2 : Exa Z h0 a2 s2) (z3 : Fld Z h0 a2 s1 "value" "[B" (.ref a3)) (z4 : Fld Z h0 a2 s1 "count" "I" (.int 7)) (SgCS : Sta Z Z.heap s0 s3 "Z" (.int gCS)) (NgCS : ¬ (gCS = (0 : Int32))) (z5 : Fld Z h0 a2 s1 "coder" "B" iZ) (z6 : Arv Z h0 a3 z0 .byte 16 [(.int 60), (.int x1), (.int 62), (.int x2), (.int x3), (.int x4), (.int 62), iZ, iZ, iZ, iZ, iZ, iZ, iZ, iZ, iZ] iZ) :
    CtrN l Z mn28 prog_5_method_8_code 1 (some (.object s0)) [] (⟨6, 2, 11, 100⟩ : Room) #[(.ref a1)] h0 [] (fun v h => ∃ r1 : Addr, ∃ r2 : Addr, ∃ r3 : ClassId, h0.size ≤ r1 ∧ h0.size ≤ r2 ∧ Exa Z h r1 s0 ∧ Fld Z h r1 s0 "value" "[B" (.ref r2) ∧ Fld Z h r1 s0 "coder" "B" iZ ∧ Arv Z h r2 r3 .byte 7 [(.int 60), (.int x1), (.int 62), (.int x2), (.int x3), (.int x4), (.int 62)] iZ ∧ v = some (.ref r1)) := by
  refine CtrN.intro (L0 := #[vr a1]) (plainFor_of_name pn3) O0 (own_entry rfl) ?_
  intro p e s m below meth c T0 hy hml hret hlk hnm W0
  refine o_aloadN W0 1 (hb hy d23_0) rfl rfl rfl ?_
  refine o_getF W0 (w59 hw) Via.refl z1 4 (hb hy d23_1) rfl ?_
  intro T1 W1
  refine o_virtualC W1 (w137 hw) (w138 hw) (o_nf W1 rfl (w140 hw)) (w140 hw) (w139 hw) (by decide) z2 (w141 hw) (w43 hw) (rm159 l hw gCS a2 a3 z0 x1 x2 x3 x4 h0 W1.old z2 z3 z4 SgCS NgCS z5 z6) 0 2 11 (by decide) (by rw [hml]; rfl) (lenOf pd22 rfl) [] rfl rfl 7 (hb hy d23_4) rfl rfl rfl all0 tri ?_
  intro v2 T2 h2 lo2 W2 K2 q2
  obtain ⟨r1_2, r2_2, r3_2, P2_0, P2_1, P2_2, P2_3, P2_4, P2_5, rfl⟩ := q2.2.2
  show Gl _ _ _ _ _ _ _ _ [(.ref r1_2)]
  exact o_retA W2 hlk (v := (.ref r1_2)) hret rfl rfl (hb hy d23_7) (by decide) (by decide) ⟨r1_2, r2_2, r3_2, (Nat.le_trans W1.keep.1 P2_0), (Nat.le_trans W1.keep.1 P2_1), P2_2, P2_3, P2_4, P2_5, rfl⟩
theorem rm161 (l : Launch) {Z a0} (hw : HW Z a0) (a1 a2 : Addr) (z0 : ClassId) (x1 x2 : Int32) (z1 : ClassId) (x3 x4 x5 x6 : Int32) (h0 : Heap) (O0 : Old Z Z.heap.size h0) (z2 : Arv Z h0 a1 z0 .byte 7 [(.int (b8 60)), (.int (b8 x1)), (.int (b8 62)), (.int (b8 60)), (.int (b8 47)), (.int (b8 x2)), (.int (b8 62))] iZ) (z3 : Arv Z h0 a2 z1 .byte 7 [(.int 60), (.int x3), (.int 62), (.int x4), (.int x5), (.int x6), (.int 62)] iZ) (hc1 : (b8 x1) = x3) (hc2 : (b8 60) = x4) (hc3 : (b8 47) = x5) (hc4 : (b8 x2) = x6) :
    CtrN l Z mn29 jdk_43_method_13_code 3 (some .boolean) [] (⟨0, 0, 0, 0⟩ : Room) #[(.ref a1), (.ref a2)] h0 [] (fun v h => v = some (.int 1)) := by
  refine CtrN.intro (L0 := #[vr a1, vr a2, un]) (plainFor_of_name pn4) O0 (own_entry rfl) ?_
  intro p e s m below meth c T0 hy hml hret hlk hnm W0
  refine o_aloadN W0 1 (hb hy d35_0) rfl rfl rfl <| o_len W0 z2 2 (hb hy d35_1) rfl <| o_aloadN W0 3 (hb hy d35_2) rfl rfl rfl <| o_len W0 z3 4 (hb hy d35_3) rfl <| o_icmpN W0 7 (hb hy d35_4) (XT.ii_ne_f (by decide)) rfl <| o_iconst W0 (v := 0) 8 (hb hy d35_7) rfl rfl ?_
  refine o_istoreN W0 (L' := #[vr a1, vr a2, vi 0]) 9 (hb hy d35_8) rfl rfl <| o_iloadN W0 10 (hb hy d35_9) rfl rfl <| o_aloadN W0 11 (hb hy d35_10) rfl rfl rfl <| o_len W0 z2 12 (hb hy d35_11) rfl <| o_icmpN W0 15 (hb hy d35_12) (XT.ii_ge_f (by decide)) rfl <| o_aloadN W0 16 (hb hy d35_15) rfl rfl rfl ?_
  refine o_iloadN W0 17 (hb hy d35_16) rfl rfl <| o_baload W0 z2 (x := (b8 60)) (i := 0) (by decide) (by decide) (by decide) rfl 18 (hb hy d35_17) rfl <| o_aloadN W0 19 (hb hy d35_18) rfl rfl rfl <| o_iloadN W0 20 (hb hy d35_19) rfl rfl <| o_baload W0 z3 (x := (60 : Int32)) (i := 0) (by decide) (by decide) (by decide) rfl 21 (hb hy d35_20) rfl <| o_icmpY W0 26 (hb hy d35_21) (XT.ii_eq_t (by decide)) (by decide) rfl ?_
  refine o_iinc W0 (v := 1) (L' := #[vr a1, vr a2, vi 1]) 29 (hb hy d35_26) rfl (by decide) rfl rfl <| o_goto W0 9 (hb hy d35_29) (by decide) rfl <| o_iloadN W0 10 (hb hy d35_9) rfl rfl <| o_aloadN W0 11 (hb hy d35_10) rfl rfl rfl <| o_len W0 z2 12 (hb hy d35_11) rfl <| o_icmpN W0 15 (hb hy d35_12) (XT.ii_ge_f (by decide)) rfl ?_
  refine o_aloadN W0 16 (hb hy d35_15) rfl rfl rfl <| o_iloadN W0 17 (hb hy d35_16) rfl rfl <| o_baload W0 z2 (x := (b8 x1)) (i := 1) (by decide) (by decide) (by decide) rfl 18 (hb hy d35_17) rfl <| o_aloadN W0 19 (hb hy d35_18) rfl rfl rfl <| o_iloadN W0 20 (hb hy d35_19) rfl rfl <| o_baload W0 z3 (x := x3) (i := 1) (by decide) (by decide) (by decide) rfl 21 (hb hy d35_20) rfl ?_
  refine o_icmpY W0 26 (hb hy d35_21) (XT.ii_eq_t hc1) (by decide) rfl <| o_iinc W0 (v := 2) (L' := #[vr a1, vr a2, vi 2]) 29 (hb hy d35_26) rfl (by decide) rfl rfl <| o_goto W0 9 (hb hy d35_29) (by decide) rfl <| o_iloadN W0 10 (hb hy d35_9) rfl rfl <| o_aloadN W0 11 (hb hy d35_10) rfl rfl rfl <| o_len W0 z2 12 (hb hy d35_11) rfl ?_
  refine o_icmpN W0 15 (hb hy d35_12) (XT.ii_ge_f (by decide)) rfl <| o_aloadN W0 16 (hb hy d35_15) rfl rfl rfl <| o_iloadN W0 17 (hb hy d35_16) rfl rfl <| o_baload W0 z2 (x := (b8 62)) (i := 2) (by decide) (by decide) (by decide) rfl 18 (hb hy d35_17) rfl <| o_aloadN W0 19 (hb hy d35_18) rfl rfl rfl <| o_iloadN W0 20 (hb hy d35_19) rfl rfl ?_
  refine o_baload W0 z3 (x := (62 : Int32)) (i := 2) (by decide) (by decide) (by decide) rfl 21 (hb hy d35_20) rfl <| o_icmpY W0 26 (hb hy d35_21) (XT.ii_eq_t (by decide)) (by decide) rfl <| o_iinc W0 (v := 3) (L' := #[vr a1, vr a2, vi 3]) 29 (hb hy d35_26) rfl (by decide) rfl rfl <| o_goto W0 9 (hb hy d35_29) (by decide) rfl <| o_iloadN W0 10 (hb hy d35_9) rfl rfl <| o_aloadN W0 11 (hb hy d35_10) rfl rfl rfl ?_
  refine o_len W0 z2 12 (hb hy d35_11) rfl <| o_icmpN W0 15 (hb hy d35_12) (XT.ii_ge_f (by decide)) rfl <| o_aloadN W0 16 (hb hy d35_15) rfl rfl rfl <| o_iloadN W0 17 (hb hy d35_16) rfl rfl <| o_baload W0 z2 (x := (b8 60)) (i := 3) (by decide) (by decide) (by decide) rfl 18 (hb hy d35_17) rfl <| o_aloadN W0 19 (hb hy d35_18) rfl rfl rfl ?_
  refine o_iloadN W0 20 (hb hy d35_19) rfl rfl <| o_baload W0 z3 (x := x4) (i := 3) (by decide) (by decide) (by decide) rfl 21 (hb hy d35_20) rfl <| o_icmpY W0 26 (hb hy d35_21) (XT.ii_eq_t hc2) (by decide) rfl <| o_iinc W0 (v := 4) (L' := #[vr a1, vr a2, vi 4]) 29 (hb hy d35_26) rfl (by decide) rfl rfl <| o_goto W0 9 (hb hy d35_29) (by decide) rfl <| o_iloadN W0 10 (hb hy d35_9) rfl rfl ?_
  refine o_aloadN W0 11 (hb hy d35_10) rfl rfl rfl <| o_len W0 z2 12 (hb hy d35_11) rfl <| o_icmpN W0 15 (hb hy d35_12) (XT.ii_ge_f (by decide)) rfl <| o_aloadN W0 16 (hb hy d35_15) rfl rfl rfl <| o_iloadN W0 17 (hb hy d35_16) rfl rfl <| o_baload W0 z2 (x := (b8 47)) (i := 4) (by decide) (by decide) (by decide) rfl 18 (hb hy d35_17) rfl ?_
  refine o_aloadN W0 19 (hb hy d35_18) rfl rfl rfl <| o_iloadN W0 20 (hb hy d35_19) rfl rfl <| o_baload W0 z3 (x := x5) (i := 4) (by decide) (by decide) (by decide) rfl 21 (hb hy d35_20) rfl <| o_icmpY W0 26 (hb hy d35_21) (XT.ii_eq_t hc3) (by decide) rfl <| o_iinc W0 (v := 5) (L' := #[vr a1, vr a2, vi 5]) 29 (hb hy d35_26) rfl (by decide) rfl rfl <| o_goto W0 9 (hb hy d35_29) (by decide) rfl ?_
  refine o_iloadN W0 10 (hb hy d35_9) rfl rfl <| o_aloadN W0 11 (hb hy d35_10) rfl rfl rfl <| o_len W0 z2 12 (hb hy d35_11) rfl <| o_icmpN W0 15 (hb hy d35_12) (XT.ii_ge_f (by decide)) rfl <| o_aloadN W0 16 (hb hy d35_15) rfl rfl rfl <| o_iloadN W0 17 (hb hy d35_16) rfl rfl ?_
  refine o_baload W0 z2 (x := (b8 x2)) (i := 5) (by decide) (by decide) (by decide) rfl 18 (hb hy d35_17) rfl <| o_aloadN W0 19 (hb hy d35_18) rfl rfl rfl <| o_iloadN W0 20 (hb hy d35_19) rfl rfl <| o_baload W0 z3 (x := x6) (i := 5) (by decide) (by decide) (by decide) rfl 21 (hb hy d35_20) rfl <| o_icmpY W0 26 (hb hy d35_21) (XT.ii_eq_t hc4) (by decide) rfl <| o_iinc W0 (v := 6) (L' := #[vr a1, vr a2, vi 6]) 29 (hb hy d35_26) rfl (by decide) rfl rfl ?_
  refine o_goto W0 9 (hb hy d35_29) (by decide) rfl <| o_iloadN W0 10 (hb hy d35_9) rfl rfl <| o_aloadN W0 11 (hb hy d35_10) rfl rfl rfl <| o_len W0 z2 12 (hb hy d35_11) rfl <| o_icmpN W0 15 (hb hy d35_12) (XT.ii_ge_f (by decide)) rfl <| o_aloadN W0 16 (hb hy d35_15) rfl rfl rfl ?_
  refine o_iloadN W0 17 (hb hy d35_16) rfl rfl <| o_baload W0 z2 (x := (b8 62)) (i := 6) (by decide) (by decide) (by decide) rfl 18 (hb hy d35_17) rfl <| o_aloadN W0 19 (hb hy d35_18) rfl rfl rfl <| o_iloadN W0 20 (hb hy d35_19) rfl rfl <| o_baload W0 z3 (x := (62 : Int32)) (i := 6) (by decide) (by decide) (by decide) rfl 21 (hb hy d35_20) rfl <| o_icmpY W0 26 (hb hy d35_21) (XT.ii_eq_t (by decide)) (by decide) rfl ?_
  refine o_iinc W0 (v := 7) (L' := #[vr a1, vr a2, vi 7]) 29 (hb hy d35_26) rfl (by decide) rfl rfl <| o_goto W0 9 (hb hy d35_29) (by decide) rfl <| o_iloadN W0 10 (hb hy d35_9) rfl rfl <| o_aloadN W0 11 (hb hy d35_10) rfl rfl rfl <| o_len W0 z2 12 (hb hy d35_11) rfl <| o_icmpY W0 32 (hb hy d35_12) (XT.ii_ge_t (by decide)) (by decide) rfl ?_
  refine o_iconst W0 (v := 1) 33 (hb hy d35_32) rfl rfl ?_
  exact o_retN W0 hlk (t := .boolean) hret (by simp) (z' := (1 : Int32)) (by decide) (hb hy d35_33) (by decide) (by decide) rfl
theorem rm162 (l : Launch) {Z a0} (hw : HW Z a0) (gCS : Int32) (a1 a2 a3 a4 : Addr) (z0 : ClassId) (x1 x2 : Int32) (z1 : ClassId) (x3 x4 x5 x6 : Int32) (h0 : Heap) (O0 : Old Z Z.heap.size h0) (z2 : Exa Z h0 a1 s0) (z3 : Exa Z h0 a2 s0) (z4 : a1 ≠ a2) (SgCS : Sta Z Z.heap s0 s3 "Z" (.int gCS)) (NgCS : ¬ (gCS = (0 : Int32))) (z5 : Fld Z h0 a1 s0 "coder" "B" iZ) (z6 : Fld Z h0 a2 s0 "coder" "B" iZ) (z7 : Fld Z h0 a1 s0 "value" "[B" (.ref a3)) (z8 : Fld Z h0 a2 s0 "value" "[B" (.ref a4)) (z9 : Arv Z h0 a3 z0 .byte 7 [(.int (b8 60)), (.int (b8 x1)), (.int (b8 62)), (.int (b8 60)), (.int (b8 47)), (.int (b8 x2)), (.int (b8 62))] iZ) (z10 : Arv Z h0 a4 z1 .byte 7 [(.int 60), (.int x3), (.int 62), (.int x4), (.int x5), (.int x6), (.int 62)] iZ) (hc8 : (b8 x1) = x3) (hc9 : (b8 60) = x4) (hc10 : (b8 47) = x5) (hc11 : (b8 x2) = x6) :
    CtrN l Z mn30 jdk_42_method_66_code 3 (some .boolean) [] (⟨1, 0, 0, 14⟩ : Room) #[(.ref a1), (.ref a2)] h0 [] (fun v h => v = some (.int 1)) := by
  refine CtrN.intro (L0 := #[vr a1, vr a2, un]) (plainFor_of_name pn0) O0 (own_entry rfl) ?_
  intro p e s m below meth c T0 hy hml hret hlk hnm W0
  refine o_aloadN W0 1 (hb hy d34_0) rfl rfl rfl <| o_aloadN W0 2 (hb hy d34_1) rfl rfl rfl ?_
  refine o_acmpY W0 7 (hb hy d34_2) rfl rfl (XT.aa_ne_t (fun q => z4 (Value.ref.inj q))) (by decide) rfl ?_
  refine o_aloadN W0 8 (hb hy d34_7) rfl rfl rfl ?_
  refine o_instY W0 (w183 hw) (Ins.self z3) 11 (hb hy d34_8) rfl ?_
  intro T1 W1
  refine o_ifN W1 14 (hb hy d34_11) (XT.i0_eq_f (by decide)) rfl <| o_aloadN W1 15 (hb hy d34_14) rfl rfl rfl ?_
  refine o_cast W1 (w183 hw) (Ins.self z3) 18 (hb hy d34_15) rfl ?_
  intro T2 W2
  refine o_astoreN W2 (L' := #[vr a1, vr a2, vr a2]) 19 (hb hy d34_18) rfl rfl rfl ?_
  refine o_getS W2 (w22 hw) Via.refl (SgCS.ext W2.ox) 22 (hb hy d34_19) rfl ?_
  intro T3 W3
  refine o_ifN W3 25 (hb hy d34_22) (XT.i0_eq_f NgCS) rfl <| o_aloadN W3 26 (hb hy d34_25) rfl rfl rfl ?_
  refine o_getF W3 (w21 hw) Via.refl z5 29 (hb hy d34_26) rfl ?_
  intro T4 W4
  refine o_aloadN W4 30 (hb hy d34_29) rfl rfl rfl ?_
  refine o_getF W4 (w21 hw) Via.refl z6 33 (hb hy d34_30) rfl ?_
  intro T5 W5
  refine o_icmpN W5 36 (hb hy d34_33) (XT.ii_ne_f (by decide)) rfl <| o_aloadN W5 37 (hb hy d34_36) rfl rfl rfl ?_
  refine o_getF W5 (w20 hw) Via.refl z7 40 (hb hy d34_37) rfl ?_
  intro T6 W6
  refine o_aloadN W6 41 (hb hy d34_40) rfl rfl rfl ?_
  refine o_getF W6 (w20 hw) Via.refl z8 44 (hb hy d34_41) rfl ?_
  intro T7 W7
  refine o_staticC W7 (w184 hw) (w185 hw) (w130 hw) (w186 hw) (by decide) (rm161 l hw a3 a4 z0 x1 x2 z1 x3 x4 x5 x6 h0 W7.old z9 z10 hc8 hc9 hc10 hc11) 0 0 0 (by decide) (by rw [hml]; rfl) (lenOf pd23 rfl) [] rfl rfl 47 (hb hy d34_44) rfl rfl rfl all0 tri ?_
  intro v12 T12 h12 lo12 W12 K12 q12
  obtain rfl := q12.2.2
  show Gl _ _ _ _ _ _ _ _ [(.int 1)]
  refine o_ifN W12 50 (hb hy d34_47) (XT.i0_eq_f (by decide)) rfl <| o_iconst W12 (v := 1) 51 (hb hy d34_50) rfl rfl <| o_goto W12 55 (hb hy d34_51) (by decide) rfl ?_
  exact o_retN W12 hlk (t := .boolean) hret (by simp) (z' := (1 : Int32)) (by decide) (hb hy d34_55) (by decide) (by decide) rfl
theorem rm163 (l : Launch) {Z a0} (hw : HW Z a0) (a1 a2 : Addr) (z0 : ClassId) (x1 x2 x3 : Int32) (h0 : Heap) (O0 : Old Z Z.heap.size h0) (z1 : Fld Z h0 a1 s1 "value" "[B" (.ref a2)) (z2 : Arv Z h0 a2 z0 .byte 16 [(.int 60), (.int x1), (.int 62), (.int x2), (.int x3), iZ, iZ, iZ, iZ, iZ, iZ, iZ, iZ, iZ, iZ, iZ] iZ) (z3 : Fld Z h0 a1 s1 "coder" "B" iZ) :
    CtrN l Z mn7 jdk_68_method_9_code 3 none [] (⟨0, 0, 0, 0⟩ : Room) #[(.ref a1), (.int 7)] h0 [] (fun v h => v = none) := by
  refine CtrN.intro (L0 := #[vr a1, vi 7, un]) (plainFor_of_name pn1) O0 (own_entry rfl) ?_
  intro p e s m below meth c T0 hy hml hret hlk hnm W0
  refine o_aloadN W0 1 (hb hy d15_0) rfl rfl rfl ?_
  refine o_getF W0 (w55 hw) Via.refl z1 4 (hb hy d15_1) rfl ?_
  intro T1 W1
  refine o_len W1 z2 5 (hb hy d15_4) rfl <| o_aloadN W1 6 (hb hy d15_5) rfl rfl rfl ?_
  refine o_getF W1 (w57 hw) Via.refl z3 9 (hb hy d15_6) rfl ?_
  intro T2 W2
  refine o_ishr W2 (v := 16) 10 (hb hy d15_9) (by decide) rfl <| o_istoreN W2 (L' := #[vr a1, vi 7, vi 16]) 11 (hb hy d15_10) rfl rfl <| o_iloadN W2 12 (hb hy d15_11) rfl rfl <| o_iloadN W2 13 (hb hy d15_12) rfl rfl <| o_isub W2 (v := (-9 : Int32)) 14 (hb hy d15_13) (by decide) rfl <| o_ifY W2 38 (hb hy d15_14) (XT.i0_le_t (by decide)) (by decide) rfl ?_
  exact o_ret0 W2 hlk hret (hb hy d15_38) (by decide) (by decide) rfl
theorem rm164 (l : Launch) {Z a0} (hw : HW Z a0) (gCS : Int32) (a1 a2 a3 : Addr) (z0 : ClassId) (x1 x2 : Int32) (z1 : ClassId) (x3 x4 x5 : Int32) (h0 : Heap) (O0 : Old Z Z.heap.size h0) (z2 : Exa Z h0 a1 s0) (SgCS : Sta Z Z.heap s0 s3 "Z" (.int gCS)) (NgCS : ¬ (gCS = (0 : Int32))) (z3 : Fld Z h0 a1 s0 "coder" "B" iZ) (z4 : Fld Z h0 a1 s0 "value" "[B" (.ref a3)) (z5 : Arv Z h0 a3 z0 .byte 2 [(.int (b8 x1)), (.int (b8 x2))] iZ) (z6 : Arv Z h0 a2 z1 .byte 16 [(.int 60), (.int x3), (.int 62), (.int x4), (.int x5), iZ, iZ, iZ, iZ, iZ, iZ, iZ, iZ, iZ, iZ, iZ] iZ) (z7 : Z.heap.size ≤ a2) :
    CtrN l Z mn9 jdk_42_method_147_code 4 none [] (⟨1, 0, 0, 27⟩ : Room) #[(.ref a1), (.ref a2), (.int 5), iZ] h0 [a2] (fun v h => Arv Z h a2 z1 .byte 16 [(.int 60), (.int x3), (.int 62), (.int x4), (.int x5), (.int (b8 x1)), (.int (b8 x2)), iZ, iZ, iZ, iZ, iZ, iZ, iZ, iZ, iZ] iZ ∧ v = none) := by
  refine CtrN.intro (L0 := #[vr a1, vr a2, vi 5, vi 0]) (plainFor_of_name pn0) O0 (own_entry rfl) ?_
  intro p e s m below meth c T0 hy hml hret hlk hnm W0
  refine o_aloadN W0 1 (hb hy d18_0) rfl rfl rfl ?_
  refine o_virtualC W0 (w82 hw) (w83 hw) (o_nf W0 rfl (w85 hw)) (w85 hw) (w84 hw) (by decide) z2 (w86 hw) (w3 hw) (rm6 l hw gCS a1 h0 W0.old SgCS NgCS z3) 0 0 0 (by decide) (by rw [hml]; rfl) (lenOf pd4 rfl) [] rfl rfl 4 (hb hy d18_1) rfl rfl rfl all0 tri ?_
  intro v1 T1 h1 lo1 W1 K1 q1
  obtain rfl := q1.2.2
  show Gl _ _ _ _ _ _ _ _ [iZ]
  refine o_iloadN W1 5 (hb hy d18_4) rfl rfl <| o_icmpN W1 8 (hb hy d18_5) (XT.ii_ne_f (by decide)) rfl <| o_aloadN W1 9 (hb hy d18_8) rfl rfl rfl ?_
  have c2 := (z4.keep K1 nin0)
  refine o_getF W1 (w20 hw) Via.refl c2 12 (hb hy d18_9) rfl ?_
  intro T3 W3
  refine o_iconst W3 (v := 0) 13 (hb hy d18_12) rfl rfl <| o_aloadN W3 14 (hb hy d18_13) rfl rfl rfl <| o_iloadN W3 15 (hb hy d18_14) rfl rfl <| o_iloadN W3 16 (hb hy d18_15) rfl rfl <| o_ishl W3 (v := 5) 17 (hb hy d18_16) (by decide) rfl <| o_aloadN W3 18 (hb hy d18_17) rfl rfl rfl ?_
  refine o_getF W3 (w20 hw) Via.refl c2 21 (hb hy d18_18) rfl ?_
  intro T4 W4
  have c5 := (z5.keep K1 nin0)
  refine o_len W4 c5 22 (hb hy d18_21) rfl ?_
  have c6 := (z6.keep K1 nin0)
  refine o_copy W4 (w110 hw) (w113 hw) (w111 hw) (w112 hw) c5 c6 (us := [(.int (b8 x1)), (.int (b8 x2))]) (Or.inl ⟨rfl, rfl⟩) (by decide) (by decide) (by decide) (by decide) (by decide) rfl (Nat.le_of_ble_eq_true rfl) (vd' := [(.int 60), (.int x3), (.int 62), (.int x4), (.int x5), (.int (b8 x1)), (.int (b8 x2)), iZ, iZ, iZ, iZ, iZ, iZ, iZ, iZ, iZ]) rfl z7 m0 tri (by rw [hml]; rfl) 25 (hb hy d18_22) rfl (by decide) 0 (by exact Nat.le_of_eq rfl) (by decide) ?_
  intro T7 h7 lo7 W7 K7 V7
  refine o_goto W7 43 (hb hy d18_25) (by decide) rfl ?_
  exact o_ret0 W7 hlk hret (hb hy d18_43) (by decide) (by decide) ⟨V7, rfl⟩
theorem rm165 (l : Launch) {Z a0} (hw : HW Z a0) (gCS : Int32) (a1 a2 a3 a4 : Addr) (z0 : ClassId) (x1 x2 : Int32) (z1 : ClassId) (x3 x4 x5 : Int32) (h0 : Heap) (O0 : Old Z Z.heap.size h0) (z2 : Exa Z h0 a1 s2) (SgCS : Sta Z Z.heap s0 s3 "Z" (.int gCS)) (NgCS : ¬ (gCS = (0 : Int32))) (z3 : Fld Z h0 a1 s1 "coder" "B" iZ) (z4 : Exa Z h0 a2 s0) (z5 : Fld Z h0 a2 s0 "coder" "B" iZ) (z6 : Fld Z h0 a1 s1 "value" "[B" (.ref a3)) (z7 : Fld Z h0 a2 s0 "value" "[B" (.ref a4)) (z8 : Arv Z h0 a4 z0 .byte 2 [(.int (b8 x1)), (.int (b8 x2))] iZ) (z9 : Arv Z h0 a3 z1 .byte 16 [(.int 60), (.int x3), (.int 62), (.int x4), (.int x5), iZ, iZ, iZ, iZ, iZ, iZ, iZ, iZ, iZ, iZ, iZ] iZ) (z10 : Z.heap.size ≤ a3) :
    CtrN l Z mn10 jdk_68_method_73_code 3 none [] (⟨2, 0, 0, 42⟩ : Room) #[(.ref a1), (.int 5), (.ref a2)] h0 [a3] (fun v h => Arv Z h a3 z1 .byte 16 [(.int 60), (.int x3), (.int 62), (.int x4), (.int x5), (.int (b8 x1)), (.int (b8 x2)), iZ, iZ, iZ, iZ, iZ, iZ, iZ, iZ, iZ] iZ ∧ v = none) := by
  refine CtrN.intro (L0 := #[vr a1, vi 5, vr a2]) (plainFor_of_name pn1) O0 (own_entry rfl) ?_
  intro p e s m below meth c T0 hy hml hret hlk hnm W0
  refine o_aloadN W0 1 (hb hy d16_0) rfl rfl rfl <| o_aloadN W0 2 (hb hy d16_1) rfl rfl rfl ?_
  refine o_privateC W0 (w99 hw) (w100 hw) (w102 hw) (w101 hw) (w103 hw) (by decide) z2 (w51 hw) (rm9 l hw gCS a1 a2 h0 W0.old SgCS NgCS z3 z4 z5) 0 0 0 (by decide) (by rw [hml]; rfl) (lenOf pd6 rfl) [] rfl rfl 5 (hb hy d16_2) rfl rfl rfl all0 tri ?_
  intro v1 T1 h1 lo1 W1 K1 q1
  obtain rfl := q1.2.2
  show Gl _ _ _ _ _ _ _ _ []
  refine o_aloadN W1 6 (hb hy d16_5) rfl rfl rfl <| o_aloadN W1 7 (hb hy d16_6) rfl rfl rfl ?_
  have c2 := (z6.keep K1 nin0)
  refine o_getF W1 (w55 hw) Via.refl c2 10 (hb hy d16_7) rfl ?_
  intro T3 W3
  refine o_iloadN W3 11 (hb hy d16_10) rfl rfl <| o_aloadN W3 12 (hb hy d16_11) rfl rfl rfl ?_
  have c4 := (z3.keep K1 nin0)
  refine o_getF W3 (w57 hw) Via.refl c4 15 (hb hy d16_12) rfl ?_
  intro T5 W5
  have c6 := (z5.keep K1 nin0)
  have c7 := (z7.keep K1 nin0)
  have c8 := (z8.keep K1 nin0)
  have c9 := (z9.keep K1 nin0)
  have c10 := (z4.keep K1)
  refine o_virtualC W5 (w105 hw) (w106 hw) (o_nf W5 rfl (w108 hw)) (w108 hw) (w107 hw) (by decide) c10 (w109 hw) (w3 hw) (rm164 l hw gCS a2 a3 a4 z0 x1 x2 z1 x3 x4 x5 h1 W5.old c10 SgCS NgCS c6 c7 c8 c9 z10) 0 0 0 (by decide) (by rw [hml]; rfl) (lenOf pd7 rfl) [] rfl rfl 18 (hb hy d16_15) rfl rfl rfl (allS ⟨z10, m0⟩ all0) tri ?_
  intro v11 T11 h11 lo11 W11 K11 q11
  obtain ⟨P11_0, rfl⟩ := q11.2.2
  show Gl _ _ _ _ _ _ _ _ []
  exact o_ret0 W11 hlk hret (hb hy d16_18) (by decide) (by decide) ⟨P11_0, rfl⟩
theorem rm166 (l : Launch) {Z a0} (hw : HW Z a0) (gCS : Int32) (a1 a2 a3 : Addr) (z0 : ClassId) (x1 x2 : Int32) (a4 : Addr) (z1 : ClassId) (x3 x4 x5 : Int32) (h0 : Heap) (O0 : Old Z Z.heap.size h0) (z2 : Exa Z h0 a2 s0) (z3 : Fld Z h0 a2 s0 "value" "[B" (.ref a3)) (z4 : Arv Z h0 a3 z0 .byte 2 [(.int (b8 x1)), (.int (b8 x2))] iZ) (SgCS : Sta Z Z.heap s0 s3 "Z" (.int gCS)) (NgCS : ¬ (gCS = (0 : Int32))) (z5 : Fld Z h0 a2 s0 "coder" "B" iZ) (z6 : Fld Z h0 a1 s1 "count" "I" (.int 5)) (z7 : Exa Z h0 a1 s2) (z8 : Fld Z h0 a1 s1 "value" "[B" (.ref a4)) (z9 : Arv Z h0 a4 z1 .byte 16 [(.int 60), (.int x3), (.int 62), (.int x4), (.int x5), iZ, iZ, iZ, iZ, iZ, iZ, iZ, iZ, iZ, iZ, iZ] iZ) (z10 : Fld Z h0 a1 s1 "coder" "B" iZ) (z11 : Z.heap.size ≤ a4) (z12 : Z.heap.size ≤ a1) :
    CtrN l Z mn11 jdk_68_method_22_code 3 (some (.object s1)) [] (⟨3, 0, 0, 56⟩ : Room) #[(.ref a1), (.ref a2)] h0 [a4, a1] (fun v h => Fld Z h a1 s1 "count" "I" (.int 7) ∧ Fld Z h a1 s1 "value" "[B" (.ref a4) ∧ Arv Z h a4 z1 .byte 16 [(.int 60), (.int x3), (.int 62), (.int x4), (.int x5), (.int (b8 x1)), (.int (b8 x2)), iZ, iZ, iZ, iZ, iZ, iZ, iZ, iZ, iZ] iZ ∧ Fld Z h a1 s1 "coder" "B" iZ ∧ v = some (.ref a1)) := by
  refine CtrN.intro (L0 := #[vr a1, vr a2, un]) (plainFor_of_name pn1) O0 (own_entry rfl) ?_
  intro p e s m below meth c T0 hy hml hret hlk hnm W0
  refine o_aloadN W0 1 (hb hy d12_0) rfl rfl rfl ?_
  refine o_ifnonnullY W0 9 (hb hy d12_1) (by decide) rfl ?_
  refine o_aloadN W0 10 (hb hy d12_9) rfl rfl rfl ?_
  refine o_virtualC W0 (w77 hw) (w78 hw) (o_nf W0 rfl (w80 hw)) (w80 hw) (w79 hw) (by decide) z2 (w81 hw) (w3 hw) (rm60 l hw gCS a2 a3 z0 x1 x2 h0 W0.old z3 z4 z2 SgCS NgCS z5) 0 0 0 (by decide) (by rw [hml]; rfl) (lenOf pd5 rfl) [] rfl rfl 13 (hb hy d12_10) rfl rfl rfl all0 tri ?_
  intro v1 T1 h1 lo1 W1 K1 q1
  obtain rfl := q1.2.2
  show Gl _ _ _ _ _ _ _ _ [(.int 2)]
  refine o_istoreN W1 (L' := #[vr a1, vr a2, vi 2]) 14 (hb hy d12_13) rfl rfl <| o_aloadN W1 15 (hb hy d12_14) rfl rfl rfl <| o_aloadN W1 16 (hb hy d12_15) rfl rfl rfl ?_
  have c2 := (z6.keep K1 nin0)
  refine o_getF W1 (w87 hw) Via.refl c2 19 (hb hy d12_16) rfl ?_
  intro T3 W3
  refine o_iloadN W3 20 (hb hy d12_19) rfl rfl <| o_iadd W3 (v := 7) 21 (hb hy d12_20) (by decide) rfl ?_
  have c4 := (z7.keep K1)
  have c5 := (z8.keep K1 nin0)
  have c6 := (z9.keep K1 nin0)
  have c7 := (z10.keep K1 nin0)
  refine o_privateC W3 (w89 hw) (w90 hw) (w92 hw) (w91 hw) (w93 hw) (by decide) c4 (w51 hw) (rm163 l hw a1 a4 z1 x3 x4 x5 h1 W3.old c5 c6 c7) 0 0 0 (by decide) (by rw [hml]; rfl) (lenOf pd2 rfl) [] rfl rfl 24 (hb hy d12_21) rfl rfl rfl all0 tri ?_
  intro v8 T8 h8 lo8 W8 K8 q8
  obtain rfl := q8.2.2
  show Gl _ _ _ _ _ _ _ _ []
  refine o_aloadN W8 25 (hb hy d12_24) rfl rfl rfl <| o_aloadN W8 26 (hb hy d12_25) rfl rfl rfl ?_
  have c9 := (c2.keep K8 nin0)
  refine o_getF W8 (w87 hw) Via.refl c9 29 (hb hy d12_26) rfl ?_
  intro T10 W10
  refine o_aloadN W10 30 (hb hy d12_29) rfl rfl rfl ?_
  have c11 := (c7.keep K8 nin0)
  have c12 := ((z5.keep K1 nin0).keep K8 nin0)
  have c13 := (c5.keep K8 nin0)
  have c14 := ((z3.keep K1 nin0).keep K8 nin0)
  have c15 := ((z4.keep K1 nin0).keep K8 nin0)
  have c16 := (c6.keep K8 nin0)
  have c17 := (c4.keep K8)
  have c18 := ((z2.keep K1).keep K8)
  refine o_privateC W10 (w94 hw) (w95 hw) (w97 hw) (w96 hw) (w98 hw) (by decide) c17 (w51 hw) (rm165 l hw gCS a1 a2 a4 a3 z0 x1 x2 z1 x3 x4 x5 h8 W10.old c17 SgCS NgCS c11 c18 c12 c13 c14 c15 c16 z11) 0 0 0 (by decide) (by rw [hml]; rfl) (lenOf pd8 rfl) [] rfl rfl 33 (hb hy d12_30) rfl rfl rfl (allS ⟨z11, m0⟩ all0) tri ?_
  intro v19 T19 h19 lo19 W19 K19 q19
  obtain ⟨P19_0, rfl⟩ := q19.2.2
  show Gl _ _ _ _ _ _ _ _ []
  refine o_aloadN W19 34 (hb hy d12_33) rfl rfl rfl <| o_dup W19 35 (hb hy d12_34) rfl rfl ?_
  have c20 := (c17.keep K19)
  have c21 := (c9.keep K19 (ninS (Exa.neArv c17 c16 (w42 hw)) nin0))
  refine o_getF W19 (w87 hw) Via.refl c21 38 (hb hy d12_35) rfl ?_
  intro T22 W22
  refine o_iloadN W22 39 (hb hy d12_38) rfl rfl <| o_iadd W22 (v := 7) 40 (hb hy d12_39) (by decide) rfl ?_
  refine o_putF W22 (w87 hw) Via.refl c21 c20 (Or.inl (w88 hw)) (w42 hw) (ty := .int) (v' := (.int 7)) (by decide) rfl rfl z12 (Or.inl (List.mem_of_getElem? (i := 1) rfl)) tri 43 (hb hy d12_40) rfl ?_
  intro T23 h23 lo23 W23 R23
  have F23 := c21.same R23
  refine o_aloadN W23 44 (hb hy d12_43) rfl rfl rfl ?_
  have c24 := (c20.wr R23)
  have c25 := ((c13.keep K19 (ninS (Exa.neArv c17 c16 (w42 hw)) nin0)).other R23 (Or.inr (slot_ne (Or.inl (w56 hw)) (Or.inl (w88 hw)) (by decide) (t := (.array .byte)) (t' := .int) (by decide) (by decide))))
  have c26 := ((c11.keep K19 (ninS (Exa.neArv c17 c16 (w42 hw)) nin0)).other R23 (Or.inr (slot_ne (Or.inl (w58 hw)) (Or.inl (w88 hw)) (by decide) (t := .byte) (t' := .int) (by decide) (by decide))))
  have c27 := (P19_0.other R23 (Ne.symm (Exa.neArv c20 P19_0 (w42 hw))))
  exact o_retA W23 hlk (v := (.ref a1)) hret rfl rfl (hb hy d12_44) (by decide) (by decide) ⟨F23, c25, c27, c26, rfl⟩
theorem rm167 (l : Launch) {Z a0} (hw : HW Z a0) (gCS : Int32) (a1 a2 a3 : Addr) (z0 : ClassId) (x1 x2 : Int32) (a4 : Addr) (z1 : ClassId) (x3 x4 x5 : Int32) (h0 : Heap) (O0 : Old Z Z.heap.size h0) (z2 : Exa Z h0 a2 s0) (z3 : Fld Z h0 a2 s0 "value" "[B" (.ref a3)) (z4 : Arv Z h0 a3 z0 .byte 2 [(.int (b8 x1)), (.int (b8 x2))] iZ) (SgCS : Sta Z Z.heap s0 s3 "Z" (.int gCS)) (NgCS : ¬ (gCS = (0 : Int32))) (z5 : Fld Z h0 a2 s0 "coder" "B" iZ) (z6 : Fld Z h0 a1 s1 "count" "I" (.int 5)) (z7 : Exa Z h0 a1 s2) (z8 : Fld Z h0 a1 s1 "value" "[B" (.ref a4)) (z9 : Arv Z h0 a4 z1 .byte 16 [(.int 60), (.int x3), (.int 62), (.int x4), (.int x5), iZ, iZ, iZ, iZ, iZ, iZ, iZ, iZ, iZ, iZ, iZ] iZ) (z10 : Fld Z h0 a1 s1 "coder" "B" iZ) (z11 : Z.heap.size ≤ a4) (z12 : Z.heap.size ≤ a1) :
    CtrN l Z mn12 jdk_67_method_7_code 2 (some (.object s2)) [] (⟨4, 0, 0, 70⟩ : Room) #[(.ref a1), (.ref a2)] h0 [a1, a4] (fun v h => Fld Z h a1 s1 "count" "I" (.int 7) ∧ Fld Z h a1 s1 "value" "[B" (.ref a4) ∧ Arv Z h a4 z1 .byte 16 [(.int 60), (.int x3), (.int 62), (.int x4), (.int x5), (.int (b8 x1)), (.int (b8 x2)), iZ, iZ, iZ, iZ, iZ, iZ, iZ, iZ, iZ] iZ ∧ Fld Z h a1 s1 "coder" "B" iZ ∧ v = some (.ref a1)) := by
  refine CtrN.intro (L0 := #[vr a1, vr a2]) (plainFor_of_name pn2) O0 (own_entry rfl) ?_
  intro p e s m below meth c T0 hy hml hret hlk hnm W0
  refine o_aloadN W0 1 (hb hy d11_0) rfl rfl rfl <| o_aloadN W0 2 (hb hy d11_1) rfl rfl rfl ?_
  refine o_superC W0 (by decide) (w72 hw) (w73 hw) (own_sameN (y := mn11) (y2 := mn7) (by decide) (w73 hw) rfl (w90 hw) (w92 hw)) (w74 hw) (w76 hw) (Ins.self z7) (w51 hw) (rm166 l hw gCS a1 a2 a3 z0 x1 x2 a4 z1 x3 x4 x5 h0 W0.old z2 z3 z4 SgCS NgCS z5 z6 z7 z8 z9 z10 z11 z12) 0 0 0 (by decide) (by rw [hml]; rfl) (lenOf pd9 rfl) [] rfl rfl 5 (hb hy d11_2) rfl rfl rfl (allS ⟨z11, (Or.inl (List.mem_of_getElem? (i := 1) rfl))⟩ (allS ⟨z12, m0⟩ all0)) tri ?_
  intro v1 T1 h1 lo1 W1 K1 q1
  obtain ⟨P1_0, P1_1, P1_2, P1_3, rfl⟩ := q1.2.2
  show Gl _ _ _ _ _ _ _ _ [(.ref a1)]
  refine o_pop W1 6 (hb hy d11_5) rfl rfl <| o_aloadN W1 7 (hb hy d11_6) rfl rfl rfl ?_
  have c2 := (z7.keep K1)
  exact o_retA W1 hlk (v := (.ref a1)) hret rfl rfl (hb hy d11_7) (by decide) (by decide) ⟨P1_0, P1_1, P1_2, P1_3, rfl⟩
theorem rm168 (l : Launch) {Z a0} (hw : HW Z a0) (a1 a2 : Addr) (z0 : ClassId) (x1 x2 x3 x4 x5 : Int32) (h0 : Heap) (O0 : Old Z Z.heap.size h0) (z1 : Fld Z h0 a1 s1 "value" "[B" (.ref a2)) (z2 : Arv Z h0 a2 z0 .byte 16 [(.int 60), (.int x1), (.int 62), (.int x2), (.int x3), (.int x4), (.int x5), iZ, iZ, iZ, iZ, iZ, iZ, iZ, iZ, iZ] iZ) (z3 : Fld Z h0 a1 s1 "coder" "B" iZ) :
    CtrN l Z mn7 jdk_68_method_9_code 3 none [] (⟨0, 0, 0, 0⟩ : Room) #[(.ref a1), (.int 8)] h0 [] (fun v h => v = none) := by
  refine CtrN.intro (L0 := #[vr a1, vi 8, un]) (plainFor_of_name pn1) O0 (own_entry rfl) ?_
  intro p e s m below meth c T0 hy hml hret hlk hnm W0
  refine o_aloadN W0 1 (hb hy d15_0) rfl rfl rfl ?_
  refine o_getF W0 (w55 hw) Via.refl z1 4 (hb hy d15_1) rfl ?_
  intro T1 W1
  refine o_len W1 z2 5 (hb hy d15_4) rfl <| o_aloadN W1 6 (hb hy d15_5) rfl rfl rfl ?_
  refine o_getF W1 (w57 hw) Via.refl z3 9 (hb hy d15_6) rfl ?_
  intro T2 W2
  refine o_ishr W2 (v := 16) 10 (hb hy d15_9) (by decide) rfl <| o_istoreN W2 (L' := #[vr a1, vi 8, vi 16]) 11 (hb hy d15_10) rfl rfl <| o_iloadN W2 12 (hb hy d15_11) rfl rfl <| o_iloadN W2 13 (hb hy d15_12) rfl rfl <| o_isub W2 (v := (-8 : Int32)) 14 (hb hy d15_13) (by decide) rfl <| o_ifY W2 38 (hb hy d15_14) (XT.i0_le_t (by decide)) (by decide) rfl ?_
  exact o_ret0 W2 hlk hret (hb hy d15_38) (by decide) (by decide) rfl
theorem rm169 (l : Launch) {Z a0} (hw : HW Z a0) (gCS : Int32) (a1 a2 : Addr) (z0 : ClassId) (x1 x2 x3 x4 x5 : Int32) (h0 : Heap) (O0 : Old Z Z.heap.size h0) (z1 : Fld Z h0 a1 s1 "count" "I" (.int 7)) (z2 : Exa Z h0 a1 s2) (z3 : Fld Z h0 a1 s1 "value" "[B" (.ref a2)) (z4 : Arv Z h0 a2 z0 .byte 16 [(.int 60), (.int x1), (.int 62), (.int x2), (.int x3), (.int x4), (.int x5), iZ, iZ, iZ, iZ, iZ, iZ, iZ, iZ, iZ] iZ) (z5 : Fld Z h0 a1 s1 "coder" "B" iZ) (SgCS : Sta Z Z.heap s0 s3 "Z" (.int gCS)) (NgCS : ¬ (gCS = (0 : Int32))) (z6 : Z.heap.size ≤ a1) (z7 : Z.heap.size ≤ a2) :
    CtrN l Z mn15 jdk_68_method_31_code 2 (some (.object s1)) [] (⟨1, 0, 0, 14⟩ : Room) #[(.ref a1), (.int 62)] h0 [a1, a2] (fun v h => Fld Z h a1 s1 "count" "I" (.int 8) ∧ Fld Z h a1 s1 "value" "[B" (.ref a2) ∧ Arv Z h a2 z0 .byte 16 [(.int 60), (.int x1), (.int 62), (.int x2), (.int x3), (.int x4), (.int x5), (.int 62), iZ, iZ, iZ, iZ, iZ, iZ, iZ, iZ] iZ ∧ Fld Z h a1 s1 "coder" "B" iZ ∧ v = some (.ref a1)) := by
  refine CtrN.intro (L0 := #[vr a1, vi 62]) (plainFor_of_name pn1) O0 (own_entry rfl) ?_
  intro p e s m below meth c T0 hy hml hret hlk hnm W0
  refine o_aloadN W0 1 (hb hy d20_0) rfl rfl rfl <| o_aloadN W0 2 (hb hy d20_1) rfl rfl rfl ?_
  refine o_getF W0 (w87 hw) Via.refl z1 5 (hb hy d20_2) rfl ?_
  intro T1 W1
  refine o_iconst W1 (v := 1) 6 (hb hy d20_5) rfl rfl <| o_iadd W1 (v := 8) 7 (hb hy d20_6) (by decide) rfl ?_
  refine o_privateC W1 (w89 hw) (w90 hw) (w92 hw) (w91 hw) (w93 hw) (by decide) z2 (w51 hw) (rm168 l hw a1 a2 z0 x1 x2 x3 x4 x5 h0 W1.old z3 z4 z5) 0 0 0 (by decide) (by rw [hml]; rfl) (lenOf pd2 rfl) [] rfl rfl 10 (hb hy d20_7) rfl rfl rfl all0 tri ?_
  intro v2 T2 h2 lo2 W2 K2 q2
  obtain rfl := q2.2.2
  show Gl _ _ _ _ _ _ _ _ []
  refine o_aloadN W2 11 (hb hy d20_10) rfl rfl rfl ?_
  have c3 := (z5.keep K2 nin0)
  have c4 := (z2.keep K2)
  refine o_virtualC W2 (w123 hw) (w124 hw) (o_nf W2 rfl (w126 hw)) (w126 hw) (w125 hw) (by decide) c4 (w127 hw) (w51 hw) (rm21 l hw gCS a1 h2 W2.old SgCS NgCS c3) 0 0 0 (by decide) (by rw [hml]; rfl) (lenOf pd11 rfl) [] rfl rfl 14 (hb hy d20_11) rfl rfl rfl all0 tri ?_
  intro v5 T5 h5 lo5 W5 K5 q5
  obtain rfl := q5.2.2
  show Gl _ _ _ _ _ _ _ _ [(.int 1)]
  refine o_ifN W5 17 (hb hy d20_14) (XT.i0_eq_f (by decide)) rfl <| o_iloadN W5 18 (hb hy d20_17) rfl rfl ?_
  refine o_staticC W5 (w128 hw) (w129 hw) (w130 hw) (w131 hw) (by decide) (rm22 l hw  h5 W5.old ) 0 0 0 (by decide) (by rw [hml]; rfl) (lenOf pd12 rfl) [] rfl rfl 21 (hb hy d20_18) rfl rfl rfl all0 tri ?_
  intro v6 T6 h6 lo6 W6 K6 q6
  obtain rfl := q6.2.2
  show Gl _ _ _ _ _ _ _ _ [(.int 1)]
  refine o_ifN W6 24 (hb hy d20_21) (XT.i0_eq_f (by decide)) rfl <| o_aloadN W6 25 (hb hy d20_24) rfl rfl rfl ?_
  have c7 := (((z3.keep K2 nin0).keep K5 nin0).keep K6 nin0)
  refine o_getF W6 (w55 hw) Via.refl c7 28 (hb hy d20_25) rfl ?_
  intro T8 W8
  refine o_aloadN W8 29 (hb hy d20_28) rfl rfl rfl <| o_dup W8 30 (hb hy d20_29) rfl rfl ?_
  have c9 := (((z1.keep K2 nin0).keep K5 nin0).keep K6 nin0)
  refine o_getF W8 (w87 hw) Via.refl c9 33 (hb hy d20_30) rfl ?_
  intro T10 W10
  refine o_dupX1 W10 34 (hb hy d20_33) rfl rfl rfl <| o_iconst W10 (v := 1) 35 (hb hy d20_34) rfl rfl <| o_iadd W10 (v := 8) 36 (hb hy d20_35) (by decide) rfl ?_
  have c11 := ((c4.keep K5).keep K6)
  refine o_putF W10 (w87 hw) Via.refl c9 c11 (Or.inl (w88 hw)) (w42 hw) (ty := .int) (v' := (.int 8)) (by decide) rfl rfl z6 m0 tri 39 (hb hy d20_36) rfl ?_
  intro T12 h12 lo12 W12 R12
  have F12 := c9.same R12
  refine o_iloadN W12 40 (hb hy d20_39) rfl rfl <| o_i2b W12 (v := 62) 41 (hb hy d20_40) (by decide) rfl ?_
  have c13 := (c11.wr R12)
  have c14 := (((z4.keep K2 nin0).keep K5 nin0).keep K6 nin0)
  have c15 := ((((z4.keep K2 nin0).keep K5 nin0).keep K6 nin0).other R12 (Ne.symm (Exa.neArv c11 c14 (w42 hw))))
  refine o_stB W12 c15 (i := 7) (x' := (62 : Int32)) (by decide) (by decide) (by decide) (Nat.lt_of_sub_eq_succ rfl) (by decide) (vs' := [(.int 60), (.int x1), (.int 62), (.int x2), (.int x3), (.int x4), (.int x5), (.int 62), iZ, iZ, iZ, iZ, iZ, iZ, iZ, iZ]) rfl z7 (Or.inl (List.mem_of_getElem? (i := 1) rfl)) tri 42 (hb hy d20_41) rfl ?_
  intro T16 h16 lo16 W16 R16 V16
  refine o_goto W16 75 (hb hy d20_42) (by decide) rfl <| o_aloadN W16 76 (hb hy d20_75) rfl rfl rfl ?_
  have c17 := (c13.wr R16)
  have c18 := (F12.other R16 (Or.inl (Exa.neArv c13 c15 (w42 hw))))
  have c19 := ((c7.other R12 (Or.inr (slot_ne (Or.inl (w56 hw)) (Or.inl (w88 hw)) (by decide) (t := (.array .byte)) (t' := .int) (by decide) (by decide)))).other R16 (Or.inl (Exa.neArv c13 c15 (w42 hw))))
  have c20 := ((((c3.keep K5 nin0).keep K6 nin0).other R12 (Or.inr (slot_ne (Or.inl (w58 hw)) (Or.inl (w88 hw)) (by decide) (t := .byte) (t' := .int) (by decide) (by decide)))).other R16 (Or.inl (Exa.neArv c13 c15 (w42 hw))))
  exact o_retA W16 hlk (v := (.ref a1)) hret rfl rfl (hb hy d20_76) (by decide) (by decide) ⟨c18, c19, V16, c20, rfl⟩
theorem rm170 (l : Launch) {Z a0} (hw : HW Z a0) (gCS : Int32) (a1 a2 : Addr) (z0 : ClassId) (x1 x2 x3 x4 x5 : Int32) (h0 : Heap) (O0 : Old Z Z.heap.size h0) (z1 : Fld Z h0 a1 s1 "count" "I" (.int 7)) (z2 : Exa Z h0 a1 s2) (z3 : Fld Z h0 a1 s1 "value" "[B" (.ref a2)) (z4 : Arv Z h0 a2 z0 .byte 16 [(.int 60), (.int x1), (.int 62), (.int x2), (.int x3), (.int x4), (.int x5), iZ, iZ, iZ, iZ, iZ, iZ, iZ, iZ, iZ] iZ) (z5 : Fld Z h0 a1 s1 "coder" "B" iZ) (SgCS : Sta Z Z.heap s0 s3 "Z" (.int gCS)) (NgCS : ¬ (gCS = (0 : Int32))) (z6 : Z.heap.size ≤ a1) (z7 : Z.heap.size ≤ a2) :
    CtrN l Z mn16 jdk_67_method_14_code 2 (some (.object s2)) [] (⟨2, 0, 0, 27⟩ : Room) #[(.ref a1), (.int 62)] h0 [a2, a1] (fun v h => Fld Z h a1 s1 "count" "I" (.int 8) ∧ Fld Z h a1 s1 "value" "[B" (.ref a2) ∧ Arv Z h a2 z0 .byte 16 [(.int 60), (.int x1), (.int 62), (.int x2), (.int x3), (.int x4), (.int x5), (.int 62), iZ, iZ, iZ, iZ, iZ, iZ, iZ, iZ] iZ ∧ Fld Z h a1 s1 "coder" "B" iZ ∧ v = some (.ref a1)) := by
  refine CtrN.intro (L0 := #[vr a1, vi 62]) (plainFor_of_name pn2) O0 (own_entry rfl) ?_
  intro p e s m below meth c T0 hy hml hret hlk hnm W0
  refine o_aloadN W0 1 (hb hy d19_0) rfl rfl rfl <| o_iloadN W0 2 (hb hy d19_1) rfl rfl ?_
  refine o_superC W0 (by decide) (w119 hw) (w120 hw) (own_sameN (y := mn15) (y2 := mn7) (by decide) (w120 hw) rfl (w90 hw) (w92 hw)) (w74 hw) (w122 hw) (Ins.self z2) (w51 hw) (rm169 l hw gCS a1 a2 z0 x1 x2 x3 x4 x5 h0 W0.old z1 z2 z3 z4 z5 SgCS NgCS z6 z7) 0 0 0 (by decide) (by rw [hml]; rfl) (lenOf pd13 rfl) [] rfl rfl 5 (hb hy d19_2) rfl rfl rfl (allS ⟨z6, (Or.inl (List.mem_of_getElem? (i := 1) rfl))⟩ (allS ⟨z7, m0⟩ all0)) tri ?_
  intro v1 T1 h1 lo1 W1 K1 q1
  obtain ⟨P1_0, P1_1, P1_2, P1_3, rfl⟩ := q1.2.2
  show Gl _ _ _ _ _ _ _ _ [(.ref a1)]
  refine o_pop W1 6 (hb hy d19_5) rfl rfl <| o_aloadN W1 7 (hb hy d19_6) rfl rfl rfl ?_
  have c2 := (z2.keep K1)
  exact o_retA W1 hlk (v := (.ref a1)) hret rfl rfl (hb hy d19_7) (by decide) (by decide) ⟨P1_0, P1_1, P1_2, P1_3, rfl⟩
theorem rm171 (l : Launch) {Z a0} (hw : HW Z a0) (gCS : Int32) (a1 a2 a3 a4 : Addr) (z0 : ClassId) (x1 : Int32) (a5 : Addr) (z1 : ClassId) (x2 x3 : Int32) (h0 : Heap) (O0 : Old Z Z.heap.size h0) (z2 : Fld Z h0 a1 s4 "out" s5 (.ref a3)) (z3 : Exa Z h0 a3 s2) (SgCS : Sta Z Z.heap s0 s3 "Z" (.int gCS)) (NgCS : ¬ (gCS = (0 : Int32))) (z4 : Fld Z h0 a3 s1 "count" "I" (.int 3)) (z5 : Fld Z h0 a3 s1 "value" "[B" (.ref a4)) (z6 : Arv Z h0 a4 z0 .byte 16 [(.int 60), (.int x1), (.int 62), iZ, iZ, iZ, iZ, iZ, iZ, iZ, iZ, iZ, iZ, iZ, iZ, iZ] iZ) (z7 : Fld Z h0 a3 s1 "coder" "B" iZ) (z8 : Z.heap.size ≤ a4) (z9 : Z.heap.size ≤ a3) (z10 : Exa Z h0 a2 s0) (z11 : Fld Z h0 a2 s0 "value" "[B" (.ref a5)) (z12 : Arv Z h0 a5 z1 .byte 2 [(.int (b8 x2)), (.int (b8 x3))] iZ) (z13 : a4 ≠ a5) (z14 : Fld Z h0 a2 s0 "coder" "B" iZ) :
    CtrW l Z consts_1 mn17 prog_5_method_3_code 2 (some (.object s4)) [] (⟨5, 2, 12, 83⟩ : Room) #[(.ref a1), (.ref a2)] h0 [a4, a3] (fun v h => Fld Z h a3 s1 "count" "I" (.int 8) ∧ Fld Z h a3 s1 "value" "[B" (.ref a4) ∧ Arv Z h a4 z0 .byte 16 [(.int 60), (.int x1), (.int 62), (.int (b8 60)), (.int (b8 47)), (.int (b8 x2)), (.int (b8 x3)), (.int 62), iZ, iZ, iZ, iZ, iZ, iZ, iZ, iZ] iZ ∧ Fld Z h a3 s1 "coder" "B" iZ ∧ v = some (.ref a1)) := by
  refine CtrW.intro (L0 := #[vr a1, vr a2]) (plainFor_of_name pn3) O0 (own_entry rfl) ?_
  intro p e s m below meth c T0 V0 hy hml hret hlk hnm W0
  refine o_aloadN W0 1 (hb hy d10_0) rfl rfl rfl ?_
  refine o_getF W0 (w59 hw) Via.refl z2 4 (hb hy d10_1) rfl ?_
  intro T1 W1
  refine o_ldcR W1 (w66 hw) (own_wS hw) (own_EL hw) (by simp [consts_1]) 6 (hb hy d10_4) rfl (n := 8) (by decide) (by decide) (cells' := 2) (slots' := 12) rfl rfl (by decide) (by decide) (vs := [(.int (b8 60)), (.int (b8 47))]) (z := (2 : Int32)) ⟨by decide, by decide⟩ (by decide) (by decide) ?_
  intro s2 T2 h2 V2 t2 k2 W2 E2 C2 X2 Fc2 Fv2 A2 ns2
  have c3 := (z3.ext E2)
  have c4 := (z4.ext E2)
  have c5 := (z5.ext E2)
  have c6 := (z6.ext E2)
  have c7 := (z7.ext E2)
  refine o_virtualC W2 (w67 hw) (w68 hw) (o_nf W2 rfl (w70 hw)) (w70 hw) (w69 hw) (by decide) c3 (w71 hw) (w43 hw) (rm125 l hw gCS a3 s2 t2 k2 a4 z0 x1 h2 W2.old X2 Fv2 A2 SgCS NgCS Fc2 c4 c3 c5 c6 c7 z8 z9) 0 2 12 (by decide) (by rw [hml]; rfl) (lenOf pd10 rfl) [] rfl rfl 9 (hb hy d10_6) rfl rfl rfl (allS ⟨z9, (Or.inl (List.mem_of_getElem? (i := 1) rfl))⟩ (allS ⟨z8, m0⟩ all0)) (fun _ K => IW.keep K (sfS (Safe.exa W2.al c3 (by decide) (by decide)) (sfS (own_safeB W2.2.2.2.1 (n := 16) (by decide) (own_EL16 hw) c6) sf0)) W2.inv) ?_
  intro v8 T8 h8 lo8 W8 K8 q8
  obtain ⟨P8_0, P8_1, P8_2, P8_3, rfl⟩ := q8.2.2
  show Gl _ _ _ _ _ _ _ _ [(.ref a3)]
  refine o_aloadN W8 10 (hb hy d10_9) rfl rfl rfl ?_
  have c9 := ((z10.ext E2).keep K8)
  have c10 := (z10.ext E2)
  have c11 := (c3.keep K8)
  have c12 := ((z11.ext E2).keep K8 (ninS (Exa.ne c10 c3 (by decide)) (ninS (Exa.neArv c10 c6 (w2 hw)) nin0)))
  have c13 := (z12.ext E2)
  have c14 := ((z12.ext E2).keep K8 (ninS (Ne.symm (Exa.neArv c3 c13 (w42 hw))) (ninS (Ne.symm z13) nin0)))
  have c15 := ((z14.ext E2).keep K8 (ninS (Exa.ne c10 c3 (by decide)) (ninS (Exa.neArv c10 c6 (w2 hw)) nin0)))
  refine o_virtualC W8 (w67 hw) (w68 hw) (o_nf W8 rfl (w70 hw)) (w70 hw) (w69 hw) (by decide) c11 (w71 hw) (w43 hw) (rm167 l hw gCS a3 a2 a5 z1 x2 x3 a4 z0 x1 (b8 60) (b8 47) h8 W8.old c9 c12 c14 SgCS NgCS c15 P8_0 c11 P8_1 P8_2 P8_3 z8 z9) 0 2 12 (by decide) (by rw [hml]; rfl) (lenOf pd10 rfl) [] rfl rfl 13 (hb hy d10_10) rfl rfl rfl (allS ⟨z9, (Or.inl (List.mem_of_getElem? (i := 1) rfl))⟩ (allS ⟨z8, m0⟩ all0)) (fun _ K => IW.keep K (sfS (Safe.exa W8.al c11 (by decide) (by decide)) (sfS (own_safeB W8.2.2.2.1 (n := 16) (by decide) (own_EL16 hw) P8_2) sf0)) W8.inv) ?_
  intro v16 T16 h16 lo16 W16 K16 q16
  obtain ⟨P16_0, P16_1, P16_2, P16_3, rfl⟩ := q16.2.2
  show Gl _ _ _ _ _ _ _ _ [(.ref a3)]
  refine o_bipush W16 (v := 62) 15 (hb hy d10_13) (by decide) rfl ?_
  have c17 := (c11.keep K16)
  refine o_virtualC W16 (w114 hw) (w115 hw) (o_nf W16 rfl (w117 hw)) (w117 hw) (w116 hw) (by decide) c17 (w118 hw) (w43 hw) (rm170 l hw gCS a3 a4 z0 x1 (b8 60) (b8 47) (b8 x2) (b8 x3) h16 W16.old P16_0 c17 P16_1 P16_2 P16_3 SgCS NgCS z9 z8) 0 2 12 (by decide) (by rw [hml]; rfl) (lenOf pd14 rfl) [] rfl rfl 18 (hb hy d10_15) rfl rfl rfl (allS ⟨z8, m0⟩ (allS ⟨z9, (Or.inl (List.mem_of_getElem? (i := 1) rfl))⟩ all0)) (fun _ K => IW.keep K (sfS (own_safeB W16.2.2.2.1 (n := 16) (by decide) (own_EL16 hw) P16_2) (sfS (Safe.exa W16.al c17 (by decide) (by decide)) sf0)) W16.inv) ?_
  intro v18 T18 h18 lo18 W18 K18 q18
  obtain ⟨P18_0, P18_1, P18_2, P18_3, rfl⟩ := q18.2.2
  show Gl _ _ _ _ _ _ _ _ [(.ref a3)]
  refine o_pop W18 19 (hb hy d10_18) rfl rfl <| o_aloadN W18 20 (hb hy d10_19) rfl rfl rfl ?_
  have c19 := (c17.keep K18)
  exact o_retAW W18 (own_EL hw) hlk (v := (.ref a1)) hret rfl rfl (hb hy d10_20) (by decide) (by decide) ⟨P18_0, P18_1, P18_2, P18_3, rfl⟩
theorem rm172 (l : Launch) {Z a0} (hw : HW Z a0) (a1 : Addr) (h0 : Heap) (O0 : Old Z Z.heap.size h0) (z0 : Fld Z h0 a1 s1 "count" "I" (.int 8)) :
    CtrN l Z mn19 jdk_68_method_6_code 1 (some .int) [] (⟨0, 0, 0, 0⟩ : Room) #[(.ref a1)] h0 [] (fun v h => v = some (.int 8)) := by
  refine CtrN.intro (L0 := #[vr a1]) (plainFor_of_name pn1) O0 (own_entry rfl) ?_
  intro p e s m below meth c T0 hy hml hret hlk hnm W0
  refine o_aloadN W0 1 (hb hy d29_0) rfl rfl rfl ?_
  refine o_getF W0 (w87 hw) Via.refl z0 4 (hb hy d29_1) rfl ?_
  intro T1 W1
  exact o_retI W1 hlk hret (hb hy d29_4) (by decide) (by decide) rfl
theorem rm173 (l : Launch) {Z a0} (hw : HW Z a0) (a1 : Addr) (h0 : Heap) (O0 : Old Z Z.heap.size h0) (z0 : Fld Z h0 a1 s1 "count" "I" (.int 8)) (z1 : Exa Z h0 a1 s2) :
    CtrN l Z mn20 jdk_67_method_93_code 1 (some .int) [] (⟨1, 0, 0, 12⟩ : Room) #[(.ref a1)] h0 [] (fun v h => v = some (.int 8)) := by
  refine CtrN.intro (L0 := #[vr a1]) (plainFor_of_name pn2) O0 (own_entry rfl) ?_
  intro p e s m below meth c T0 hy hml hret hlk hnm W0
  refine o_aloadN W0 1 (hb hy d28_0) rfl rfl rfl ?_
  refine o_superC W0 (by decide) (w160 hw) (w156 hw) (own_sameN (y := mn19) (y2 := mn7) (by decide) (w156 hw) rfl (w90 hw) (w92 hw)) (w74 hw) (w161 hw) (Ins.self z1) (w51 hw) (rm172 l hw a1 h0 W0.old z0) 0 0 0 (by decide) (by rw [hml]; rfl) (lenOf pd5 rfl) [] rfl rfl 4 (hb hy d28_1) rfl rfl rfl all0 tri ?_
  intro v1 T1 h1 lo1 W1 K1 q1
  obtain rfl := q1.2.2
  show Gl _ _ _ _ _ _ _ _ [(.int 8)]
  exact o_retI W1 hlk hret (hb hy d28_4) (by decide) (by decide) rfl
theorem rm174 (l : Launch) {Z a0} (hw : HW Z a0)  (h0 : Heap) (O0 : Old Z Z.heap.size h0) :
    CtrN l Z mn21 jdk_65_method_131_code 2 none [] (⟨0, 0, 0, 0⟩ : Room) #[iZ, (.int 8)] h0 [] (fun v h => v = none) := by
  refine CtrN.intro (L0 := #[vi 0, vi 8]) (plainFor_of_name pn5) O0 (own_entry rfl) ?_
  intro p e s m below meth c T0 hy hml hret hlk hnm W0
  refine o_iloadN W0 1 (hb hy d32_0) rfl rfl <| o_iloadN W0 2 (hb hy d32_1) rfl rfl <| o_icmpY W0 37 (hb hy d32_2) (XT.ii_ge_t (by decide)) (by decide) rfl ?_
  exact o_ret0 W0 hlk hret (hb hy d32_37) (by decide) (by decide) rfl
theorem rm175 (l : Launch) {Z a0} (hw : HW Z a0)  (h0 : Heap) (O0 : Old Z Z.heap.size h0) :
    CtrN l Z mn22 jdk_29_method_69_code 2 (some .int) [] (⟨0, 0, 0, 0⟩ : Room) #[(.int 16), (.int 8)] h0 [] (fun v h => v = some (.int 8)) := by
  refine CtrN.intro (L0 := #[vi 16, vi 8]) (Jvm.Free.JP.mathPlain rfl (by decide +kernel)) O0 (own_entry rfl) ?_
  intro p e s m below meth c T0 hy hml hret hlk hnm W0
  refine o_iloadN W0 1 (hb hy d33_0) rfl rfl <| o_iloadN W0 2 (hb hy d33_1) rfl rfl <| o_icmpY W0 9 (hb hy d33_2) (XT.ii_gt_t (by decide)) (by decide) rfl <| o_iloadN W0 10 (hb hy d33_9) rfl rfl ?_
  exact o_retI W0 hlk hret (hb hy d33_10) (by decide) (by decide) rfl
theorem rm176 (l : Launch) {Z a0} (hw : HW Z a0) (a1 : Addr) (z0 : ClassId) (x1 x2 x3 x4 x5 : Int32) (h0 : Heap) (O0 : Old Z Z.heap.size h0) (z1 : Arv Z h0 a1 z0 .byte 16 [(.int 60), (.int x1), (.int 62), (.int x2), (.int x3), (.int x4), (.int x5), (.int 62), iZ, iZ, iZ, iZ, iZ, iZ, iZ, iZ] iZ) :
    CtrN l Z mn23 jdk_65_method_133_code 5 (some (.array .byte)) [] (⟨1, 1, 8, 27⟩ : Room) #[(.ref a1), iZ, (.int 8)] h0 [] (fun v h => ∃ r1 : Addr, ∃ r2 : ClassId, h0.size ≤ r1 ∧ Arv Z h r1 r2 .byte 8 [(.int 60), (.int x1), (.int 62), (.int x2), (.int x3), (.int x4), (.int x5), (.int 62)] iZ ∧ v = some (.ref r1)) := by
  refine CtrN.intro (L0 := #[vr a1, vi 0, vi 8, un, un]) (plainFor_of_name pn5) O0 (own_entry rfl) ?_
  intro p e s m below meth c T0 hy hml hret hlk hnm W0
  refine o_iloadN W0 1 (hb hy d31_0) rfl rfl <| o_iloadN W0 2 (hb hy d31_1) rfl rfl ?_
  refine o_staticC W0 (w170 hw) (w171 hw) (w165 hw) (w172 hw) (by decide) (rm174 l hw  h0 W0.old ) 0 0 0 (by decide) (by rw [hml]; rfl) (lenOf pd17 rfl) [] rfl rfl 5 (hb hy d31_2) rfl rfl rfl all0 tri ?_
  intro v1 T1 h1 lo1 W1 K1 q1
  obtain rfl := q1.2.2
  show Gl _ _ _ _ _ _ _ _ []
  refine o_iloadN W1 6 (hb hy d31_5) rfl rfl <| o_iloadN W1 7 (hb hy d31_6) rfl rfl <| o_isub W1 (v := 8) 8 (hb hy d31_7) (by decide) rfl <| o_istoreN W1 (L' := #[vr a1, vi 0, vi 8, vi 8, un]) 9 (hb hy d31_8) rfl rfl <| o_iloadN W1 10 (hb hy d31_9) rfl rfl ?_
  refine o_newP W1 (aty := .byte) (w15 hw) tri (by decide) (cap := 8) (by decide) (by decide) 12 (hb hy d31_10) rfl (cells' := 1) (slots' := 8) rfl rfl (by decide) (by decide) (vs := [iZ, iZ, iZ, iZ, iZ, iZ, iZ, iZ]) (dv := iZ) rfl rfl ?_
  intro b2 T2 h2 k2 W2 E2 ge2 gz2 gb2 V2
  refine o_astore W2 (L' := #[vr a1, vi 0, vi 8, vi 8, vr b2]) 14 (hb hy d31_12) rfl rfl rfl <| o_aloadN W2 15 (hb hy d31_14) rfl rfl rfl <| o_iloadN W2 16 (hb hy d31_15) rfl rfl <| o_aload W2 18 (hb hy d31_16) rfl rfl rfl <| o_iconst W2 (v := 0) 19 (hb hy d31_18) rfl rfl <| o_aloadN W2 20 (hb hy d31_19) rfl rfl rfl ?_
  have c3 := ((z1.keep K1 nin0).ext E2)
  refine o_len W2 c3 21 (hb hy d31_20) rfl <| o_iloadN W2 22 (hb hy d31_21) rfl rfl <| o_isub W2 (v := 16) 23 (hb hy d31_22) (by decide) rfl <| o_iloadN W2 24 (hb hy d31_23) rfl rfl ?_
  refine o_staticC W2 (w173 hw) (w174 hw) (w175 hw) (w176 hw) (by decide) (rm175 l hw  h2 W2.old ) 4 1 8 (by decide) (by rw [hml]; rfl) (lenOf pd18 rfl) [iZ, (.ref b2), iZ, (.ref a1)] rfl rfl 27 (hb hy d31_24) rfl rfl rfl all0 tri ?_
  intro v4 T4 h4 lo4 W4 K4 q4
  obtain rfl := q4.2.2
  show Gl _ _ _ _ _ _ _ _ [(.int 8), iZ, (.ref b2), iZ, (.ref a1)]
  have c5 := (c3.keep K4 nin0)
  have c6 := (V2.keep K4 nin0)
  refine o_copy W4 (w177 hw) (w113 hw) (w111 hw) (w112 hw) c5 c6 (us := [(.int 60), (.int x1), (.int 62), (.int x2), (.int x3), (.int x4), (.int x5), (.int 62)]) (Or.inl ⟨rfl, rfl⟩) (by decide) (by decide) (by decide) (by decide) (by decide) rfl (Nat.le_of_ble_eq_true rfl) (vd' := [(.int 60), (.int x1), (.int 62), (.int x2), (.int x3), (.int x4), (.int x5), (.int 62)]) rfl gz2 (Or.inr gb2) tri (by rw [hml]; rfl) 30 (hb hy d31_27) rfl (by decide) 0 (by exact Nat.le_of_eq rfl) (by decide) ?_
  intro T7 h7 lo7 W7 K7 V7
  refine o_aload W7 32 (hb hy d31_30) rfl rfl rfl ?_
  exact o_retA W7 hlk (v := (.ref b2)) hret rfl rfl (hb hy d31_32) (by decide) (by decide) ⟨b2, k2, gb2, V7, rfl⟩
theorem rm177 (l : Launch) {Z a0} (hw : HW Z a0) (a1 : Addr) (z0 : ClassId) (x1 x2 x3 x4 x5 : Int32) (h0 : Heap) (O0 : Old Z Z.heap.size h0) (z1 : Arv Z h0 a1 z0 .byte 16 [(.int 60), (.int x1), (.int 62), (.int x2), (.int x3), (.int x4), (.int x5), (.int 62), iZ, iZ, iZ, iZ, iZ, iZ, iZ, iZ] iZ) :
    CtrN l Z mn24 jdk_65_method_132_code 3 (some (.array .byte)) [] (⟨2, 1, 8, 43⟩ : Room) #[(.ref a1), iZ, (.int 8)] h0 [] (fun v h => ∃ r1 : Addr, ∃ r2 : ClassId, h0.size ≤ r1 ∧ Arv Z h r1 r2 .byte 8 [(.int 60), (.int x1), (.int 62), (.int x2), (.int x3), (.int x4), (.int x5), (.int 62)] iZ ∧ v = some (.ref r1)) := by
  refine CtrN.intro (L0 := #[vr a1, vi 0, vi 8]) (plainFor_of_name pn5) O0 (own_entry rfl) ?_
  intro p e s m below meth c T0 hy hml hret hlk hnm W0
  refine o_iloadN W0 1 (hb hy d30_0) rfl rfl <| o_ifN W0 4 (hb hy d30_1) (XT.i0_ne_f (by decide)) rfl <| o_iloadN W0 5 (hb hy d30_4) rfl rfl <| o_aloadN W0 6 (hb hy d30_5) rfl rfl rfl <| o_len W0 z1 7 (hb hy d30_6) rfl <| o_icmpN W0 10 (hb hy d30_7) (XT.ii_eq_f (by decide)) rfl ?_
  refine o_aloadN W0 11 (hb hy d30_10) rfl rfl rfl <| o_iloadN W0 12 (hb hy d30_11) rfl rfl <| o_iloadN W0 13 (hb hy d30_12) rfl rfl ?_
  refine o_staticC W0 (w167 hw) (w168 hw) (w165 hw) (w169 hw) (by decide) (rm176 l hw a1 z0 x1 x2 x3 x4 x5 h0 W0.old z1) 0 1 8 (by decide) (by rw [hml]; rfl) (lenOf pd19 rfl) [] rfl rfl 16 (hb hy d30_13) rfl rfl rfl all0 tri ?_
  intro v1 T1 h1 lo1 W1 K1 q1
  obtain ⟨r1_1, r2_1, P1_0, P1_1, rfl⟩ := q1.2.2
  show Gl _ _ _ _ _ _ _ _ [(.ref r1_1)]
  exact o_retA W1 hlk (v := (.ref r1_1)) hret rfl rfl (hb hy d30_16) (by decide) (by decide) ⟨r1_1, r2_1, (Nat.le_trans W0.keep.1 P1_0), P1_1, rfl⟩
theorem rm178 (l : Launch) {Z a0} (hw : HW Z a0) (gCS : Int32) (a1 a2 a3 : Addr) (z0 : ClassId) (x1 x2 x3 x4 x5 : Int32) (h0 : Heap) (O0 : Old Z Z.heap.size h0) (z1 : Exa Z h0 a2 s2) (z2 : Fld Z h0 a2 s1 "value" "[B" (.ref a3)) (z3 : Fld Z h0 a2 s1 "count" "I" (.int 8)) (SgCS : Sta Z Z.heap s0 s3 "Z" (.int gCS)) (NgCS : ¬ (gCS = (0 : Int32))) (z4 : Fld Z h0 a2 s1 "coder" "B" iZ) (z5 : Exa Z h0 a1 s0) (z6 : Fld Z h0 a1 s0 "coder" "B" iZ) (z7 : Z.heap.size ≤ a1) (z8 : Arv Z h0 a3 z0 .byte 16 [(.int 60), (.int x1), (.int 62), (.int x2), (.int x3), (.int x4), (.int x5), (.int 62), iZ, iZ, iZ, iZ, iZ, iZ, iZ, iZ] iZ) (z9 : Fld Z h0 a1 s0 "value" "[B" .null) :
    CtrN l Z mn25 jdk_42_method_150_code 5 none [] (⟨3, 1, 8, 58⟩ : Room) #[(.ref a1), (.ref a2), .null] h0 [a1] (fun v h => ∃ r1 : Addr, ∃ r2 : ClassId, h0.size ≤ r1 ∧ Fld Z h a1 s0 "coder" "B" iZ ∧ Fld Z h a1 s0 "value" "[B" (.ref r1) ∧ Arv Z h r1 r2 .byte 8 [(.int 60), (.int x1), (.int 62), (.int x2), (.int x3), (.int x4), (.int x5), (.int 62)] iZ ∧ v = none) := by
  refine CtrN.intro (L0 := #[vr a1, vr a2, .val .null, un, un]) (plainFor_of_name pn0) O0 (own_entry rfl) ?_
  intro p e s m below meth c T0 hy hml hret hlk hnm W0
  refine o_aloadN W0 1 (hb hy d26_0) rfl rfl rfl ?_
  refine o_initO W0 (w11 hw) (w12 hw) (w13 hw) (by rw [hml]; rfl) 4 (hb hy d26_1) rfl (by decide) 0 (by exact Nat.le_of_eq rfl) (by decide) ?_
  intro T1 W1
  refine o_aloadN W1 5 (hb hy d26_4) rfl rfl rfl ?_
  refine o_virtualC W1 (w149 hw) (w150 hw) (o_nf W1 rfl (w152 hw)) (w152 hw) (w151 hw) (by decide) z1 (w153 hw) (w51 hw) (rm26 l hw a2 a3 h0 W1.old z2) 0 0 0 (by decide) (by rw [hml]; rfl) (lenOf pd16 rfl) [] rfl rfl 8 (hb hy d26_5) rfl rfl rfl all0 tri ?_
  intro v2 T2 h2 lo2 W2 K2 q2
  obtain rfl := q2.2.2
  show Gl _ _ _ _ _ _ _ _ [(.ref a3)]
  refine o_astoreN W2 (L' := #[vr a1, vr a2, .val .null, vr a3, un]) 9 (hb hy d26_8) rfl rfl rfl <| o_aloadN W2 10 (hb hy d26_9) rfl rfl rfl ?_
  have c3 := (z3.keep K2 nin0)
  have c4 := (z1.keep K2)
  refine o_virtualC W2 (w154 hw) (w155 hw) (o_nf2 W2 (y2 := mn7) rfl (w90 hw) (w92 hw)) (w157 hw) (w158 hw) (by decide) c4 (w159 hw) (w43 hw) (rm173 l hw a2 h2 W2.old c3 c4) 0 0 0 (by decide) (by rw [hml]; rfl) (lenOf pd5 rfl) [] rfl rfl 13 (hb hy d26_10) rfl rfl rfl all0 tri ?_
  intro v5 T5 h5 lo5 W5 K5 q5
  obtain rfl := q5.2.2
  show Gl _ _ _ _ _ _ _ _ [(.int 8)]
  refine o_istore W5 (L' := #[vr a1, vr a2, .val .null, vr a3, vi 8]) 15 (hb hy d26_13) rfl rfl <| o_aloadN W5 16 (hb hy d26_15) rfl rfl rfl ?_
  have c6 := ((z4.keep K2 nin0).keep K5 nin0)
  have c7 := (c4.keep K5)
  refine o_virtualC W5 (w162 hw) (w124 hw) (o_nf W5 rfl (w126 hw)) (w126 hw) (w125 hw) (by decide) c7 (w127 hw) (w51 hw) (rm21 l hw gCS a2 h5 W5.old SgCS NgCS c6) 0 0 0 (by decide) (by rw [hml]; rfl) (lenOf pd11 rfl) [] rfl rfl 19 (hb hy d26_16) rfl rfl rfl all0 tri ?_
  intro v8 T8 h8 lo8 W8 K8 q8
  obtain rfl := q8.2.2
  show Gl _ _ _ _ _ _ _ _ [(.int 1)]
  refine o_ifN W8 22 (hb hy d26_19) (XT.i0_eq_f (by decide)) rfl <| o_aloadN W8 23 (hb hy d26_22) rfl rfl rfl <| o_iconst W8 (v := 0) 24 (hb hy d26_23) rfl rfl ?_
  have c9 := (((z5.keep K2).keep K5).keep K8)
  have c10 := (((z6.keep K2 nin0).keep K5 nin0).keep K8 nin0)
  refine o_putF W8 (w21 hw) Via.refl c10 c9 (Or.inr ⟨(w17 hw), rfl, hnm⟩) (w2 hw) (ty := .byte) (v' := iZ) (by decide) rfl (by decide) z7 m0 tri 27 (hb hy d26_24) rfl ?_
  intro T11 h11 lo11 W11 R11
  have F11 := c10.same R11
  refine o_aloadN W11 28 (hb hy d26_27) rfl rfl rfl <| o_aloadN W11 29 (hb hy d26_28) rfl rfl rfl <| o_iconst W11 (v := 0) 30 (hb hy d26_29) rfl rfl <| o_iload W11 32 (hb hy d26_30) rfl rfl ?_
  have c12 := (c9.wr R11)
  have c13 := (((z8.keep K2 nin0).keep K5 nin0).keep K8 nin0)
  have c14 := ((((z8.keep K2 nin0).keep K5 nin0).keep K8 nin0).other R11 (Ne.symm (Exa.neArv c9 c13 (w2 hw))))
  refine o_staticC W11 (w163 hw) (w164 hw) (w165 hw) (w166 hw) (by decide) (rm177 l hw a3 z0 x1 x2 x3 x4 x5 h11 W11.old c14) 1 1 8 (by decide) (by rw [hml]; rfl) (lenOf pd19 rfl) [(.ref a1)] rfl rfl 35 (hb hy d26_32) rfl rfl rfl all0 tri ?_
  intro v15 T15 h15 lo15 W15 K15 q15
  obtain ⟨r1_15, r2_15, P15_0, P15_1, rfl⟩ := q15.2.2
  show Gl _ _ _ _ _ _ _ _ [(.ref r1_15), (.ref a1)]
  have c16 := (c12.keep K15)
  have c17 := (((((z9.keep K2 nin0).keep K5 nin0).keep K8 nin0).other R11 (Or.inr (slot_ne (Or.inr (w16 hw)) (Or.inr (w17 hw)) (by decide) (t := (.array .byte)) (t' := .byte) (by decide) (by decide)))).keep K15 nin0)
  refine o_putF W15 (w20 hw) Via.refl c17 c16 (Or.inr ⟨(w16 hw), rfl, hnm⟩) (w2 hw) (ty := (.array .byte)) (v' := (.ref r1_15)) (by decide) rfl rfl z7 m0 tri 38 (hb hy d26_35) rfl ?_
  intro T18 h18 lo18 W18 R18
  have F18 := c17.same R18
  refine o_goto W18 97 (hb hy d26_38) (by decide) rfl ?_
  have c19 := ((F11.keep K15 nin0).other R18 (Or.inr (slot_ne (Or.inr (w17 hw)) (Or.inr (w16 hw)) (by decide) (t := .byte) (t' := (.array .byte)) (by decide) (by decide))))
  have c20 := (c16.wr R18)
  have c21 := (P15_1.other R18 (own_ne' c12.lt P15_0))
  exact o_ret0 W18 hlk hret (hb hy d26_97) (by decide) (by decide) ⟨r1_15, r2_15, (Nat.le_trans W11.keep.1 P15_0), c19, F18, c21, rfl⟩
theorem rm179 (l : Launch) {Z a0} (hw : HW Z a0) (gCS : Int32) (a1 a2 a3 : Addr) (z0 : ClassId) (x1 x2 x3 x4 x5 : Int32) (h0 : Heap) (O0 : Old Z Z.heap.size h0) (z1 : Exa Z h0 a2 s2) (z2 : Fld Z h0 a2 s1 "value" "[B" (.ref a3)) (z3 : Fld Z h0 a2 s1 "count" "I" (.int 8)) (SgCS : Sta Z Z.heap s0 s3 "Z" (.int gCS)) (NgCS : ¬ (gCS = (0 : Int32))) (z4 : Fld Z h0 a2 s1 "coder" "B" iZ) (z5 : Exa Z h0 a1 s0) (z6 : Fld Z h0 a1 s0 "coder" "B" iZ) (z7 : Arv Z h0 a3 z0 .byte 16 [(.int 60), (.int x1), (.int 62), (.int x2), (.int x3), (.int x4), (.int x5), (.int 62), iZ, iZ, iZ, iZ, iZ, iZ, iZ, iZ] iZ) (z8 : Fld Z h0 a1 s0 "value" "[B" .null) (z9 : Z.heap.size ≤ a1) :
    CtrN l Z mn26 jdk_42_method_53_code 2 none [] (⟨4, 1, 8, 74⟩ : Room) #[(.ref a1), (.ref a2)] h0 [a1] (fun v h => ∃ r1 : Addr, ∃ r2 : ClassId, h0.size ≤ r1 ∧ Fld Z h a1 s0 "coder" "B" iZ ∧ Fld Z h a1 s0 "value" "[B" (.ref r1) ∧ Arv Z h r1 r2 .byte 8 [(.int 60), (.int x1), (.int 62), (.int x2), (.int x3), (.int x4), (.int x5), (.int 62)] iZ ∧ v = none) := by
  refine CtrN.intro (L0 := #[vr a1, vr a2]) (plainFor_of_name pn0) O0 (own_entry rfl) ?_
  intro p e s m below meth c T0 hy hml hret hlk hnm W0
  refine o_aloadN W0 1 (hb hy d25_0) rfl rfl rfl <| o_aloadN W0 2 (hb hy d25_1) rfl rfl rfl ?_
  refine o_aconstNull W0 3 (hb hy d25_2) rfl ?_
  refine o_specialC W0 rfl (w146 hw) (w147 hw) (w148 hw) (by decide) (w3 hw) (rm178 l hw gCS a1 a2 a3 z0 x1 x2 x3 x4 x5 h0 W0.old z1 z2 z3 SgCS NgCS z4 z5 z6 z9 z7 z8) 0 1 8 (by decide) (by rw [hml]; rfl) (lenOf pd20 rfl) [] rfl rfl 6 (hb hy d25_3) rfl rfl rfl (allS ⟨z9, m0⟩ all0) tri ?_
  intro v1 T1 h1 lo1 W1 K1 q1
  obtain ⟨r1_1, r2_1, P1_0, P1_1, P1_2, P1_3, rfl⟩ := q1.2.2
  show Gl _ _ _ _ _ _ _ _ []
  have c2 := (z5.keep K1)
  exact o_ret0 W1 hlk hret (hb hy d25_6) (by decide) (by decide) ⟨r1_1, r2_1, (Nat.le_trans W0.keep.1 P1_0), P1_1, P1_2, P1_3, rfl⟩
theorem rm180 (l : Launch) {Z a0} (hw : HW Z a0) (gCS : Int32) (a1 a2 : Addr) (z0 : ClassId) (x1 x2 x3 x4 x5 : Int32) (h0 : Heap) (O0 : Old Z Z.heap.size h0) (z1 : Exa Z h0 a1 s2) (z2 : Fld Z h0 a1 s1 "value" "[B" (.ref a2)) (z3 : Fld Z h0 a1 s1 "count" "I" (.int 8)) (SgCS : Sta Z Z.heap s0 s3 "Z" (.int gCS)) (NgCS : ¬ (gCS = (0 : Int32))) (z4 : Fld Z h0 a1 s1 "coder" "B" iZ) (z5 : Arv Z h0 a2 z0 .byte 16 [(.int 60), (.int x1), (.int 62), (.int x2), (.int x3), (.int x4), (.int x5), (.int 62), iZ, iZ, iZ, iZ, iZ, iZ, iZ, iZ] iZ) :
    CtrN l Z mn27 jdk_67_method_42_code 1 (some (.object s0)) [] (⟨5, 2, 12, 88⟩ : Room) #[(.ref a1)] h0 [] (fun v h => ∃ r1 : Addr, ∃ r2 : Addr, ∃ r3 : ClassId, h0.size ≤ r1 ∧ h0.size ≤ r2 ∧ Exa Z h r1 s0 ∧ Fld Z h r1 s0 "value" "[B" (.ref r2) ∧ Fld Z h r1 s0 "coder" "B" iZ ∧ Arv Z h r2 r3 .byte 8 [(.int 60), (.int x1), (.int 62), (.int x2), (.int x3), (.int x4), (.int x5), (.int 62)] iZ ∧ v = some (.ref r1)) := by
  refine CtrN.intro (L0 := #[vr a1]) (plainFor_of_name pn2) O0 (own_entry rfl) ?_
  intro p e s m below meth c T0 hy hml hret hlk hnm W0
  refine o_new W0 (w142 hw) (w2 hw) (w3 hw) tri 3 (hb hy d24_0) rfl (cells' := 1) (slots' := 4) rfl rfl (by decide) (by decide) ?_
  intro b1 T1 h1 W1 E1 ge1 gz1 gb1 A1 D1
  have Fb1_value : Fld Z h1 b1 s0 "value" "[B" .null := D1 (Or.inr (w16 hw)) (ty := (.array .byte)) (by decide)
  have Fb1_coder : Fld Z h1 b1 s0 "coder" "B" iZ := D1 (Or.inr (w17 hw)) (ty := .byte) (by decide)
  refine o_dup W1 4 (hb hy d24_3) rfl rfl <| o_aloadN W1 5 (hb hy d24_4) rfl rfl rfl ?_
  have c2 := (z1.ext E1)
  have c3 := (z2.ext E1)
  have c4 := (z3.ext E1)
  have c5 := (z4.ext E1)
  have c6 := (z5.ext E1)
  refine o_specialC W1 rfl (w143 hw) (w144 hw) (w145 hw) (by decide) (w3 hw) (rm179 l hw gCS b1 a1 a2 z0 x1 x2 x3 x4 x5 h1 W1.old c2 c3 c4 SgCS NgCS c5 A1 Fb1_coder c6 Fb1_value gz1) 1 2 12 (by decide) (by rw [hml]; rfl) (lenOf pd21 rfl) [(.ref b1)] rfl rfl 8 (hb hy d24_5) rfl rfl rfl (allS ⟨gz1, (Or.inr gb1)⟩ all0) tri ?_
  intro v7 T7 h7 lo7 W7 K7 q7
  obtain ⟨r1_7, r2_7, P7_0, P7_1, P7_2, P7_3, rfl⟩ := q7.2.2
  show Gl _ _ _ _ _ _ _ _ [(.ref b1)]
  have c8 := (A1.keep K7)
  exact o_retA W7 hlk (v := (.ref b1)) hret rfl rfl (hb hy d24_8) (by decide) (by decide) ⟨b1, r1_7, r2_7, gb1, (Nat.le_trans W1.keep.1 P7_0), c8, P7_2, P7_1, P7_3, rfl⟩
theorem rm181 (l : Launch) {Z a0} (hw : HW Z a0) (gCS : Int32) (a1 a2 a3 : Addr) (z0 : ClassId) (x1 x2 x3 x4 x5 : Int32) (h0 : Heap) (O0 : Old Z Z.heap.size h0) (z1 : Fld Z h0 a1 s4 "out" s5 (.ref a2)) (z2 : Exa Z h0 a2 s2) (z3 : Fld Z h0 a2 s1 "value" "[B" (.ref a3)) (z4 : Fld Z h0 a2 s1 "count" "I" (.int 8)) (SgCS : Sta Z Z.heap s0 s3 "Z" (.int gCS)) (NgCS : ¬ (gCS = (0 : Int32))) (z5 : Fld Z h0 a2 s1 "coder" "B" iZ) (z6 : Arv Z h0 a3 z0 .byte 16 [(.int 60), (.int x1), (.int 62), (.int x2), (.int x3), (.int x4), (.int x5), (.int 62), iZ, iZ, iZ, iZ, iZ, iZ, iZ, iZ] iZ) :
    CtrN l Z mn28 prog_5_method_8_code 1 (some (.object s0)) [] (⟨6, 2, 12, 100⟩ : Room) #[(.ref a1)] h0 [] (fun v h => ∃ r1 : Addr, ∃ r2 : Addr, ∃ r3 : ClassId, h0.size ≤ r1 ∧ h0.size ≤ r2 ∧ Exa Z h r1 s0 ∧ Fld Z h r1 s0 "value" "[B" (.ref r2) ∧ Fld Z h r1 s0 "coder" "B" iZ ∧ Arv Z h r2 r3 .byte 8 [(.int 60), (.int x1), (.int 62), (.int x2), (.int x3), (.int x4), (.int x5), (.int 62)] iZ ∧ v = some (.ref r1)) := by
  refine CtrN.intro (L0 := #[vr a1]) (plainFor_of_name pn3) O0 (own_entry rfl) ?_
  intro p e s m below meth c T0 hy hml hret hlk hnm W0
  refine o_aloadN W0 1 (hb hy d23_0) rfl rfl rfl ?_
  refine o_getF W0 (w59 hw) Via.refl z1 4 (hb hy d23_1) rfl ?_
  intro T1 W1
  refine o_virtualC W1 (w137 hw) (w138 hw) (o_nf W1 rfl (w140 hw)) (w140 hw) (w139 hw) (by decide) z2 (w141 hw) (w43 hw) (rm180 l hw gCS a2 a3 z0 x1 x2 x3 x4 x5 h0 W1.old z2 z3 z4 SgCS NgCS z5 z6) 0 2 12 (by decide) (by rw [hml]; rfl) (lenOf pd22 rfl) [] rfl rfl 7 (hb hy d23_4) rfl rfl rfl all0 tri ?_
  intro v2 T2 h2 lo2 W2 K2 q2
  obtain ⟨r1_2, r2_2, r3_2, P2_0, P2_1, P2_2, P2_3, P2_4, P2_5, rfl⟩ := q2.2.2
  show Gl _ _ _ _ _ _ _ _ [(.ref r1_2)]
  exact o_retA W2 hlk (v := (.ref r1_2)) hret rfl rfl (hb hy d23_7) (by decide) (by decide) ⟨r1_2, r2_2, r3_2, (Nat.le_trans W1.keep.1 P2_0), (Nat.le_trans W1.keep.1 P2_1), P2_2, P2_3, P2_4, P2_5, rfl⟩
theorem rm182 (l : Launch) {Z a0} (hw : HW Z a0) (a1 a2 : Addr) (z0 : ClassId) (x1 x2 x3 : Int32) (z1 : ClassId) (x4 x5 x6 x7 x8 : Int32) (h0 : Heap) (O0 : Old Z Z.heap.size h0) (z2 : Arv Z h0 a1 z0 .byte 8 [(.int (b8 60)), (.int (b8 x1)), (.int (b8 62)), (.int (b8 60)), (.int (b8 47)), (.int (b8 x2)), (.int (b8 x3)), (.int (b8 62))] iZ) (z3 : Arv Z h0 a2 z1 .byte 8 [(.int 60), (.int x4), (.int 62), (.int x5), (.int x6), (.int x7), (.int x8), (.int 62)] iZ) (hc1 : (b8 x1) = x4) (hc2 : (b8 60) = x5) (hc3 : (b8 47) = x6) (hc4 : (b8 x2) = x7) (hc5 : (b8 x3) = x8) :
    CtrN l Z mn29 jdk_43_method_13_code 3 (some .boolean) [] (⟨0, 0, 0, 0⟩ : Room) #[(.ref a1), (.ref a2)] h0 [] (fun v h => v = some (.int 1)) := by
  refine CtrN.intro (L0 := #[vr a1, vr a2, un]) (plainFor_of_name pn4) O0 (own_entry rfl) ?_
  intro p e s m below meth c T0 hy hml hret hlk hnm W0
  refine o_aloadN W0 1 (hb hy d35_0) rfl rfl rfl <| o_len W0 z2 2 (hb hy d35_1) rfl <| o_aloadN W0 3 (hb hy d35_2) rfl rfl rfl <| o_len W0 z3 4 (hb hy d35_3) rfl <| o_icmpN W0 7 (hb hy d35_4) (XT.ii_ne_f (by decide)) rfl <| o_iconst W0 (v := 0) 8 (hb hy d35_7) rfl rfl ?_
  refine o_istoreN W0 (L' := #[vr a1, vr a2, vi 0]) 9 (hb hy d35_8) rfl rfl <| o_iloadN W0 10 (hb hy d35_9) rfl rfl <| o_aloadN W0 11 (hb hy d35_10) rfl rfl rfl <| o_len W0 z2 12 (hb hy d35_11) rfl <| o_icmpN W0 15 (hb hy d35_12) (XT.ii_ge_f (by decide)) rfl <| o_aloadN W0 16 (hb hy d35_15) rfl rfl rfl ?_
  refine o_iloadN W0 17 (hb hy d35_16) rfl rfl <| o_baload W0 z2 (x := (b8 60)) (i := 0) (by decide) (by decide) (by decide) rfl 18 (hb hy d35_17) rfl <| o_aloadN W0 19 (hb hy d35_18) rfl rfl rfl <| o_iloadN W0 20 (hb hy d35_19) rfl rfl <| o_baload W0 z3 (x := (60 : Int32)) (i := 0) (by decide) (by decide) (by decide) rfl 21 (hb hy d35_20) rfl <| o_icmpY W0 26 (hb hy d35_21) (XT.ii_eq_t (by decide)) (by decide) rfl ?_
  refine o_iinc W0 (v := 1) (L' := #[vr a1, vr a2, vi 1]) 29 (hb hy d35_26) rfl (by decide) rfl rfl <| o_goto W0 9 (hb hy d35_29) (by decide) rfl <| o_iloadN W0 10 (hb hy d35_9) rfl rfl <| o_aloadN W0 11 (hb hy d35_10) rfl rfl rfl <| o_len W0 z2 12 (hb hy d35_11) rfl <| o_icmpN W0 15 (hb hy d35_12) (XT.ii_ge_f (by decide)) rfl ?_
  refine o_aloadN W0 16 (hb hy d35_15) rfl rfl rfl <| o_iloadN W0 17 (hb hy d35_16) rfl rfl <| o_baload W0 z2 (x := (b8 x1)) (i := 1) (by decide) (by decide) (by decide) rfl 18 (hb hy d35_17) rfl <| o_aloadN W0 19 (hb hy d35_18) rfl rfl rfl <| o_iloadN W0 20 (hb hy d35_19) rfl rfl <| o_baload W0 z3 (x := x4) (i := 1) (by decide) (by decide) (by decide) rfl 21 (hb hy d35_20) rfl ?_
  refine o_icmpY W0 26 (hb hy d35_21) (XT.ii_eq_t hc1) (by decide) rfl <| o_iinc W0 (v := 2) (L' := #[vr a1, vr a2, vi 2]) 29 (hb hy d35_26) rfl (by decide) rfl rfl <| o_goto W0 9 (hb hy d35_29) (by decide) rfl <| o_iloadN W0 10 (hb hy d35_9) rfl rfl <| o_aloadN W0 11 (hb hy d35_10) rfl rfl rfl <| o_len W0 z2 12 (hb hy d35_11) rfl ?_
  refine o_icmpN W0 15 (hb hy d35_12) (XT.ii_ge_f (by decide)) rfl <| o_aloadN W0 16 (hb hy d35_15) rfl rfl rfl <| o_iloadN W0 17 (hb hy d35_16) rfl rfl <| o_baload W0 z2 (x := (b8 62)) (i := 2) (by decide) (by decide) (by decide) rfl 18 (hb hy d35_17) rfl <| o_aloadN W0 19 (hb hy d35_18) rfl rfl rfl <| o_iloadN W0 20 (hb hy d35_19) rfl rfl ?_
  refine o_baload W0 z3 (x := (62 : Int32)) (i := 2) (by decide) (by decide) (by decide) rfl 21 (hb hy d35_20) rfl <| o_icmpY W0 26 (hb hy d35_21) (XT.ii_eq_t (by decide)) (by decide) rfl <| o_iinc W0 (v := 3) (L' := #[vr a1, vr a2, vi 3]) 29 (hb hy d35_26) rfl (by decide) rfl rfl <| o_goto W0 9 (hb hy d35_29) (by decide) rfl <| o_iloadN W0 10 (hb hy d35_9) rfl rfl <| o_aloadN W0 11 (hb hy d35_10) rfl rfl rfl ?_
  refine o_len W0 z2 12 (hb hy d35_11) rfl <| o_icmpN W0 15 (hb hy d35_12) (XT.ii_ge_f (by decide)) rfl <| o_aloadN W0 16 (hb hy d35_15) rfl rfl rfl <| o_iloadN W0 17 (hb hy d35_16) rfl rfl <| o_baload W0 z2 (x := (b8 60)) (i := 3) (by decide) (by decide) (by decide) rfl 18 (hb hy d35_17) rfl <| o_aloadN W0 19 (hb hy d35_18) rfl rfl rfl ?_
  refine o_iloadN W0 20 (hb hy d35_19) rfl rfl <| o_baload W0 z3 (x := x5) (i := 3) (by decide) (by decide) (by decide) rfl 21 (hb hy d35_20) rfl <| o_icmpY W0 26 (hb hy d35_21) (XT.ii_eq_t hc2) (by decide) rfl <| o_iinc W0 (v := 4) (L' := #[vr a1, vr a2, vi 4]) 29 (hb hy d35_26) rfl (by decide) rfl rfl <| o_goto W0 9 (hb hy d35_29) (by decide) rfl <| o_iloadN W0 10 (hb hy d35_9) rfl rfl ?_
  refine o_aloadN W0 11 (hb hy d35_10) rfl rfl rfl <| o_len W0 z2 12 (hb hy d35_11) rfl <| o_icmpN W0 15 (hb hy d35_12) (XT.ii_ge_f (by decide)) rfl <| o_aloadN W0 16 (hb hy d35_15) rfl rfl rfl <| o_iloadN W0 17 (hb hy d35_16) rfl rfl <| o_baload W0 z2 (x := (b8 47)) (i := 4) (by decide) (by decide) (by decide) rfl 18 (hb hy d35_17) rfl ?_
  refine o_aloadN W0 19 (hb hy d35_18) rfl rfl rfl <| o_iloadN W0 20 (hb hy d35_19) rfl rfl <| o_baload W0 z3 (x := x6) (i := 4) (by decide) (by decide) (by decide) rfl 21 (hb hy d35_20) rfl <| o_icmpY W0 26 (hb hy d35_21) (XT.ii_eq_t hc3) (by decide) rfl <| o_iinc W0 (v := 5) (L' := #[vr a1, vr a2, vi 5]) 29 (hb hy d35_26) rfl (by decide) rfl rfl <| o_goto W0 9 (hb hy d35_29) (by decide) rfl ?_
  refine o_iloadN W0 10 (hb hy d35_9) rfl rfl <| o_aloadN W0 11 (hb hy d35_10) rfl rfl rfl <| o_len W0 z2 12 (hb hy d35_11) rfl <| o_icmpN W0 15 (hb hy d35_12) (XT.ii_ge_f (by decide)) rfl <| o_aloadN W0 16 (hb hy d35_15) rfl rfl rfl <| o_iloadN W0 17 (hb hy d35_16) rfl rfl ?_
  refine o_baload W0 z2 (x := (b8 x2)) (i := 5) (by decide) (by decide) (by decide) rfl 18 (hb hy d35_17) rfl <| o_aloadN W0 19 (hb hy d35_18) rfl rfl rfl <| o_iloadN W0 20 (hb hy d35_19) rfl rfl <| o_baload W0 z3 (x := x7) (i := 5) (by decide) (by decide) (by decide) rfl 21 (hb hy d35_20) rfl <| o_icmpY W0 26 (hb hy d35_21) (XT.ii_eq_t hc4) (by decide) rfl <| o_iinc W0 (v := 6) (L' := #[vr a1, vr a2, vi 6]) 29 (hb hy d35_26) rfl (by decide) rfl rfl ?_
  refine o_goto W0 9 (hb hy d35_29) (by decide) rfl <| o_iloadN W0 10 (hb hy d35_9) rfl rfl <| o_aloadN W0 11 (hb hy d35_10) rfl rfl rfl <| o_len W0 z2 12 (hb hy d35_11) rfl <| o_icmpN W0 15 (hb hy d35_12) (XT.ii_ge_f (by decide)) rfl <| o_aloadN W0 16 (hb hy d35_15) rfl rfl rfl ?_
  refine o_iloadN W0 17 (hb hy d35_16) rfl rfl <| o_baload W0 z2 (x := (b8 x3)) (i := 6) (by decide) (by decide) (by decide) rfl 18 (hb hy d35_17) rfl <| o_aloadN W0 19 (hb hy d35_18) rfl rfl rfl <| o_iloadN W0 20 (hb hy d35_19) rfl rfl <| o_baload W0 z3 (x := x8) (i := 6) (by decide) (by decide) (by decide) rfl 21 (hb hy d35_20) rfl <| o_icmpY W0 26 (hb hy d35_21) (XT.ii_eq_t hc5) (by decide) rfl ?_
  refine o_iinc W0 (v := 7) (L' := #[vr a1, vr a2, vi 7]) 29 (hb hy d35_26) rfl (by decide) rfl rfl <| o_goto W0 9 (hb hy d35_29) (by decide) rfl <| o_iloadN W0 10 (hb hy d35_9) rfl rfl <| o_aloadN W0 11 (hb hy d35_10) rfl rfl rfl <| o_len W0 z2 12 (hb hy d35_11) rfl <| o_icmpN W0 15 (hb hy d35_12) (XT.ii_ge_f (by decide)) rfl ?_
  refine o_aloadN W0 16 (hb hy d35_15) rfl rfl rfl <| o_iloadN W0 17 (hb hy d35_16) rfl rfl <| o_baload W0 z2 (x := (b8 62)) (i := 7) (by decide) (by decide) (by decide) rfl 18 (hb hy d35_17) rfl <| o_aloadN W0 19 (hb hy d35_18) rfl rfl rfl <| o_iloadN W0 20 (hb hy d35_19) rfl rfl <| o_baload W0 z3 (x := (62 : Int32)) (i := 7) (by decide) (by decide) (by decide) rfl 21 (hb hy d35_20) rfl ?_
  refine o_icmpY W0 26 (hb hy d35_21) (XT.ii_eq_t (by decide)) (by decide) rfl <| o_iinc W0 (v := 8) (L' := #[vr a1, vr a2, vi 8]) 29 (hb hy d35_26) rfl (by decide) rfl rfl <| o_goto W0 9 (hb hy d35_29) (by decide) rfl <| o_iloadN W0 10 (hb hy d35_9) rfl rfl <| o_aloadN W0 11 (hb hy d35_10) rfl rfl rfl <| o_len W0 z2 12 (hb hy d35_11) rfl ?_
  refine o_icmpY W0 32 (hb hy d35_12) (XT.ii_ge_t (by decide)) (by decide) rfl <| o_iconst W0 (v := 1) 33 (hb hy d35_32) rfl rfl ?_
  exact o_retN W0 hlk (t := .boolean) hret (by simp) (z' := (1 : Int32)) (by decide) (hb hy d35_33) (by decide) (by decide) rfl
theorem rm183 (l : Launch) {Z a0} (hw : HW Z a0) (gCS : Int32) (a1 a2 a3 a4 : Addr) (z0 : ClassId) (x1 x2 x3 : Int32) (z1 : ClassId) (x4 x5 x6 x7 x8 : Int32) (h0 : Heap) (O0 : Old Z Z.heap.size h0) (z2 : Exa Z h0 a1 s0) (z3 : Exa Z h0 a2 s0) (z4 : a1 ≠ a2) (SgCS : Sta Z Z.heap s0 s3 "Z" (.int gCS)) (NgCS : ¬ (gCS = (0 : Int32))) (z5 : Fld Z h0 a1 s0 "coder" "B" iZ) (z6 : Fld Z h0 a2 s0 "coder" "B" iZ) (z7 : Fld Z h0 a1 s0 "value" "[B" (.ref a3)) (z8 : Fld Z h0 a2 s0 "value" "[B" (.ref a4)) (z9 : Arv Z h0 a3 z0 .byte 8 [(.int (b8 60)), (.int (b8 x1)), (.int (b8 62)), (.int (b8 60)), (.int (b8 47)), (.int (b8 x2)), (.int (b8 x3)), (.int (b8 62))] iZ) (z10 : Arv Z h0 a4 z1 .byte 8 [(.int 60), (.int x4), (.int 62), (.int x5), (.int x6), (.int x7), (.int x8), (.int 62)] iZ) (hc8 : (b8 x1) = x4) (hc9 : (b8 60) = x5) (hc10 : (b8 47) = x6) (hc11 : (b8 x2) = x7) (hc12 : (b8 x3) = x8) :
    CtrN l Z mn30 jdk_42_method_66_code 3 (some .boolean) [] (⟨1, 0, 0, 14⟩ : Room) #[(.ref a1), (.ref a2)] h0 [] (fun v h => v = some (.int 1)) := by
  refine CtrN.intro (L0 := #[vr a1, vr a2, un]) (plainFor_of_name pn0) O0 (own_entry rfl) ?_
  intro p e s m below meth c T0 hy hml hret hlk hnm W0
  refine o_aloadN W0 1 (hb hy d34_0) rfl rfl rfl <| o_aloadN W0 2 (hb hy d34_1) rfl rfl rfl ?_
  refine o_acmpY W0 7 (hb hy d34_2) rfl rfl (XT.aa_ne_t (fun q => z4 (Value.ref.inj q))) (by decide) rfl ?_
  refine o_aloadN W0 8 (hb hy d34_7) rfl rfl rfl ?_
  refine o_instY W0 (w183 hw) (Ins.self z3) 11 (hb hy d34_8) rfl ?_
  intro T1 W1
  refine o_ifN W1 14 (hb hy d34_11) (XT.i0_eq_f (by decide)) rfl <| o_aloadN W1 15 (hb hy d34_14) rfl rfl rfl ?_
  refine o_cast W1 (w183 hw) (Ins.self z3) 18 (hb hy d34_15) rfl ?_
  intro T2 W2
  refine o_astoreN W2 (L' := #[vr a1, vr a2, vr a2]) 19 (hb hy d34_18) rfl rfl rfl ?_
  refine o_getS W2 (w22 hw) Via.refl (SgCS.ext W2.ox) 22 (hb hy d34_19) rfl ?_
  intro T3 W3
  refine o_ifN W3 25 (hb hy d34_22) (XT.i0_eq_f NgCS) rfl <| o_aloadN W3 26 (hb hy d34_25) rfl rfl rfl ?_
  refine o_getF W3 (w21 hw) Via.refl z5 29 (hb hy d34_26) rfl ?_
  intro T4 W4
  refine o_aloadN W4 30 (hb hy d34_29) rfl rfl rfl ?_
  refine o_getF W4 (w21 hw) Via.refl z6 33 (hb hy d34_30) rfl ?_
  intro T5 W5
  refine o_icmpN W5 36 (hb hy d34_33) (XT.ii_ne_f (by decide)) rfl <| o_aloadN W5 37 (hb hy d34_36) rfl rfl rfl ?_
  refine o_getF W5 (w20 hw) Via.refl z7 40 (hb hy d34_37) rfl ?_
  intro T6 W6
  refine o_aloadN W6 41 (hb hy d34_40) rfl rfl rfl ?_
  refine o_getF W6 (w20 hw) Via.refl z8 44 (hb hy d34_41) rfl ?_
  intro T7 W7
  refine o_staticC W7 (w184 hw) (w185 hw) (w130 hw) (w186 hw) (by decide) (rm182 l hw a3 a4 z0 x1 x2 x3 z1 x4 x5 x6 x7 x8 h0 W7.old z9 z10 hc8 hc9 hc10 hc11 hc12) 0 0 0 (by decide) (by rw [hml]; rfl) (lenOf pd23 rfl) [] rfl rfl 47 (hb hy d34_44) rfl rfl rfl all0 tri ?_
  intro v13 T13 h13 lo13 W13 K13 q13
  obtain rfl := q13.2.2
  show Gl _ _ _ _ _ _ _ _ [(.int 1)]
  refine o_ifN W13 50 (hb hy d34_47) (XT.i0_eq_f (by decide)) rfl <| o_iconst W13 (v := 1) 51 (hb hy d34_50) rfl rfl <| o_goto W13 55 (hb hy d34_51) (by decide) rfl ?_
  exact o_retN W13 hlk (t := .boolean) hret (by simp) (z' := (1 : Int32)) (by decide) (hb hy d34_55) (by decide) (by decide) rfl
theorem rm184 (l : Launch) {Z a0} (hw : HW Z a0) (a1 a2 : Addr) (z0 : ClassId) (x1 x2 x3 : Int32) (h0 : Heap) (O0 : Old Z Z.heap.size h0) (z1 : Fld Z h0 a1 s1 "value" "[B" (.ref a2)) (z2 : Arv Z h0 a2 z0 .byte 16 [(.int 60), (.int x1), (.int 62), (.int x2), (.int x3), iZ, iZ, iZ, iZ, iZ, iZ, iZ, iZ, iZ, iZ, iZ] iZ) (z3 : Fld Z h0 a1 s1 "coder" "B" iZ) :
    CtrN l Z mn7 jdk_68_method_9_code 3 none [] (⟨0, 0, 0, 0⟩ : Room) #[(.ref a1), (.int 8)] h0 [] (fun v h => v = none) := by
  refine CtrN.intro (L0 := #[vr a1, vi 8, un]) (plainFor_of_name pn1) O0 (own_entry rfl) ?_
  intro p e s m below meth c T0 hy hml hret hlk hnm W0
  refine o_aloadN W0 1 (hb hy d15_0) rfl rfl rfl ?_
  refine o_getF W0 (w55 hw) Via.refl z1 4 (hb hy d15_1) rfl ?_
  intro T1 W1
  refine o_len W1 z2 5 (hb hy d15_4) rfl <| o_aloadN W1 6 (hb hy d15_5) rfl rfl rfl ?_
  refine o_getF W1 (w57 hw) Via.refl z3 9 (hb hy d15_6) rfl ?_
  intro T2 W2
  refine o_ishr W2 (v := 16) 10 (hb hy d15_9) (by decide) rfl <| o_istoreN W2 (L' := #[vr a1, vi 8, vi 16]) 11 (hb hy d15_10) rfl rfl <| o_iloadN W2 12 (hb hy d15_11) rfl rfl <| o_iloadN W2 13 (hb hy d15_12) rfl rfl <| o_isub W2 (v := (-8 : Int32)) 14 (hb hy d15_13) (by decide) rfl <| o_ifY W2 38 (hb hy d15_14) (XT.i0_le_t (by decide)) (by decide) rfl ?_
  exact o_ret0 W2 hlk hret (hb hy d15_38) (by decide) (by decide) rfl
theorem rm185 (l : Launch) {Z a0} (hw : HW Z a0) (gCS : Int32) (a1 a2 a3 : Addr) (z0 : ClassId) (x1 x2 x3 : Int32) (z1 : ClassId) (x4 x5 x6 : Int32) (h0 : Heap) (O0 : Old Z Z.heap.size h0) (z2 : Exa Z h0 a1 s0) (SgCS : Sta Z Z.heap s0 s3 "Z" (.int gCS)) (NgCS : ¬ (gCS = (0 : Int32))) (z3 : Fld Z h0 a1 s0 "coder" "B" iZ) (z4 : Fld Z h0 a1 s0 "value" "[B" (.ref a3)) (z5 : Arv Z h0 a3 z0 .byte 3 [(.int (b8 x1)), (.int (b8 x2)), (.int (b8 x3))] iZ) (z6 : Arv Z h0 a2 z1 .byte 16 [(.int 60), (.int x4), (.int 62), (.int x5), (.int x6), iZ, iZ, iZ, iZ, iZ, iZ, iZ, iZ, iZ, iZ, iZ] iZ) (z7 : Z.heap.size ≤ a2) :
    CtrN l Z mn9 jdk_42_method_147_code 4 none [] (⟨1, 0, 0, 27⟩ : Room) #[(.ref a1), (.ref a2), (.int 5), iZ] h0 [a2] (fun v h => Arv Z h a2 z1 .byte 16 [(.int 60), (.int x4), (.int 62), (.int x5), (.int x6), (.int (b8 x1)), (.int (b8 x2)), (.int (b8 x3)), iZ, iZ, iZ, iZ, iZ, iZ, iZ, iZ] iZ ∧ v = none) := by
  refine CtrN.intro (L0 := #[vr a1, vr a2, vi 5, vi 0]) (plainFor_of_name pn0) O0 (own_entry rfl) ?_
  intro p e s m below meth c T0 hy hml hret hlk hnm W0
  refine o_aloadN W0 1 (hb hy d18_0) rfl rfl rfl ?_
  refine o_virtualC W0 (w82 hw) (w83 hw) (o_nf W0 rfl (w85 hw)) (w85 hw) (w84 hw) (by decide) z2 (w86 hw) (w3 hw) (rm6 l hw gCS a1 h0 W0.old SgCS NgCS z3) 0 0 0 (by decide) (by rw [hml]; rfl) (lenOf pd4 rfl) [] rfl rfl 4 (hb hy d18_1) rfl rfl rfl all0 tri ?_
  intro v1 T1 h1 lo1 W1 K1 q1
  obtain rfl := q1.2.2
  show Gl _ _ _ _ _ _ _ _ [iZ]
  refine o_iloadN W1 5 (hb hy d18_4) rfl rfl <| o_icmpN W1 8 (hb hy d18_5) (XT.ii_ne_f (by decide)) rfl <| o_aloadN W1 9 (hb hy d18_8) rfl rfl rfl ?_
  have c2 := (z4.keep K1 nin0)
  refine o_getF W1 (w20 hw) Via.refl c2 12 (hb hy d18_9) rfl ?_
  intro T3 W3
  refine o_iconst W3 (v := 0) 13 (hb hy d18_12) rfl rfl <| o_aloadN W3 14 (hb hy d18_13) rfl rfl rfl <| o_iloadN W3 15 (hb hy d18_14) rfl rfl <| o_iloadN W3 16 (hb hy d18_15) rfl rfl <| o_ishl W3 (v := 5) 17 (hb hy d18_16) (by decide) rfl <| o_aloadN W3 18 (hb hy d18_17) rfl rfl rfl ?_
  refine o_getF W3 (w20 hw) Via.refl c2 21 (hb hy d18_18) rfl ?_
  intro T4 W4
  have c5 := (z5.keep K1 nin0)
  refine o_len W4 c5 22 (hb hy d18_21) rfl ?_
  have c6 := (z6.keep K1 nin0)
  refine o_copy W4 (w110 hw) (w113 hw) (w111 hw) (w112 hw) c5 c6 (us := [(.int (b8 x1)), (.int (b8 x2)), (.int (b8 x3))]) (Or.inl ⟨rfl, rfl⟩) (by decide) (by decide) (by decide) (by decide) (by decide) rfl (Nat.le_of_ble_eq_true rfl) (vd' := [(.int 60), (.int x4), (.int 62), (.int x5), (.int x6), (.int (b8 x1)), (.int (b8 x2)), (.int (b8 x3)), iZ, iZ, iZ, iZ, iZ, iZ, iZ, iZ]) rfl z7 m0 tri (by rw [hml]; rfl) 25 (hb hy d18_22) rfl (by decide) 0 (by exact Nat.le_of_eq rfl) (by decide) ?_
  intro T7 h7 lo7 W7 K7 V7
  refine o_goto W7 43 (hb hy d18_25) (by decide) rfl ?_
  exact o_ret0 W7 hlk hret (hb hy d18_43) (by decide) (by decide) ⟨V7, rfl⟩
theorem rm186 (l : Launch) {Z a0} (hw : HW Z a0) (gCS : Int32) (a1 a2 a3 a4 : Addr) (z0 : ClassId) (x1 x2 x3 : Int32) (z1 : ClassId) (x4 x5 x6 : Int32) (h0 : Heap) (O0 : Old Z Z.heap.size h0) (z2 : Exa Z h0 a1 s2) (SgCS : Sta Z Z.heap s0 s3 "Z" (.int gCS)) (NgCS : ¬ (gCS = (0 : Int32))) (z3 : Fld Z h0 a1 s1 "coder" "B" iZ) (z4 : Exa Z h0 a2 s0) (z5 : Fld Z h0 a2 s0 "coder" "B" iZ) (z6 : Fld Z h0 a1 s1 "value" "[B" (.ref a3)) (z7 : Fld Z h0 a2 s0 "value" "[B" (.ref a4)) (z8 : Arv Z h0 a4 z0 .byte 3 [(.int (b8 x1)), (.int (b8 x2)), (.int (b8 x3))] iZ) (z9 : Arv Z h0 a3 z1 .byte 16 [(.int 60), (.int x4), (.int 62), (.int x5), (.int x6), iZ, iZ, iZ, iZ, iZ, iZ, iZ, iZ, iZ, iZ, iZ] iZ) (z10 : Z.heap.size ≤ a3) :
    CtrN l Z mn10 jdk_68_method_73_code 3 none [] (⟨2, 0, 0, 42⟩ : Room) #[(.ref a1), (.int 5), (.ref a2)] h0 [a3] (fun v h => Arv Z h a3 z1 .byte 16 [(.int 60), (.int x4), (.int 62), (.int x5), (.int x6), (.int (b8 x1)), (.int (b8 x2)), (.int (b8 x3)), iZ, iZ, iZ, iZ, iZ, iZ, iZ, iZ] iZ ∧ v = none) := by
  refine CtrN.intro (L0 := #[vr a1, vi 5, vr a2]) (plainFor_of_name pn1) O0 (own_entry rfl) ?_
  intro p e s m below meth c T0 hy hml hret hlk hnm W0
  refine o_aloadN W0 1 (hb hy d16_0) rfl rfl rfl <| o_aloadN W0 2 (hb hy d16_1) rfl rfl rfl ?_
  refine o_privateC W0 (w99 hw) (w100 hw) (w102 hw) (w101 hw) (w103 hw) (by decide) z2 (w51 hw) (rm9 l hw gCS a1 a2 h0 W0.old SgCS NgCS z3 z4 z5) 0 0 0 (by decide) (by rw [hml]; rfl) (lenOf pd6 rfl) [] rfl rfl 5 (hb hy d16_2) rfl rfl rfl all0 tri ?_
  intro v1 T1 h1 lo1 W1 K1 q1
  obtain rfl := q1.2.2
  show Gl _ _ _ _ _ _ _ _ []
  refine o_aloadN W1 6 (hb hy d16_5) rfl rfl rfl <| o_aloadN W1 7 (hb hy d16_6) rfl rfl rfl ?_
  have c2 := (z6.keep K1 nin0)
  refine o_getF W1 (w55 hw) Via.refl c2 10 (hb hy d16_7) rfl ?_
  intro T3 W3
  refine o_iloadN W3 11 (hb hy d16_10) rfl rfl <| o_aloadN W3 12 (hb hy d16_11) rfl rfl rfl ?_
  have c4 := (z3.keep K1 nin0)
  refine o_getF W3 (w57 hw) Via.refl c4 15 (hb hy d16_12) rfl ?_
  intro T5 W5
  have c6 := (z5.keep K1 nin0)
  have c7 := (z7.keep K1 nin0)
  have c8 := (z8.keep K1 nin0)
  have c9 := (z9.keep K1 nin0)
  have c10 := (z4.keep K1)
  refine o_virtualC W5 (w105 hw) (w106 hw) (o_nf W5 rfl (w108 hw)) (w108 hw) (w107 hw) (by decide) c10 (w109 hw) (w3 hw) (rm185 l hw gCS a2 a3 a4 z0 x1 x2 x3 z1 x4 x5 x6 h1 W5.old c10 SgCS NgCS c6 c7 c8 c9 z10) 0 0 0 (by decide) (by rw [hml]; rfl) (lenOf pd7 rfl) [] rfl rfl 18 (hb hy d16_15) rfl rfl rfl (allS ⟨z10, m0⟩ all0) tri ?_
  intro v11 T11 h11 lo11 W11 K11 q11
  obtain ⟨P11_0, rfl⟩ := q11.2.2
  show Gl _ _ _ _ _ _ _ _ []
  exact o_ret0 W11 hlk hret (hb hy d16_18) (by decide) (by decide) ⟨P11_0, rfl⟩
theorem rm187 (l : Launch) {Z a0} (hw : HW Z a0) (gCS : Int32) (a1 a2 a3 : Addr) (z0 : ClassId) (x1 x2 x3 : Int32) (a4 : Addr) (z1 : ClassId) (x4 x5 x6 : Int32) (h0 : Heap) (O0 : Old Z Z.heap.size h0) (z2 : Exa Z h0 a2 s0) (z3 : Fld Z h0 a2 s0 "value" "[B" (.ref a3)) (z4 : Arv Z h0 a3 z0 .byte 3 [(.int (b8 x1)), (.int (b8 x2)), (.int (b8 x3))] iZ) (SgCS : Sta Z Z.heap s0 s3 "Z" (.int gCS)) (NgCS : ¬ (gCS = (0 : Int32))) (z5 : Fld Z h0 a2 s0 "coder" "B" iZ) (z6 : Fld Z h0 a1 s1 "count" "I" (.int 5)) (z7 : Exa Z h0 a1 s2) (z8 : Fld Z h0 a1 s1 "value" "[B" (.ref a4)) (z9 : Arv Z h0 a4 z1 .byte 16 [(.int 60), (.int x4), (.int 62), (.int x5), (.int x6), iZ, iZ, iZ, iZ, iZ, iZ, iZ, iZ, iZ, iZ, iZ] iZ) (z10 : Fld Z h0 a1 s1 "coder" "B" iZ) (z11 : Z.heap.size ≤ a4) (z12 : Z.heap.size ≤ a1) :
    CtrN l Z mn11 jdk_68_method_22_code 3 (some (.object s1)) [] (⟨3, 0, 0, 56⟩ : Room) #[(.ref a1), (.ref a2)] h0 [a4, a1] (fun v h => Fld Z h a1 s1 "count" "I" (.int 8) ∧ Fld Z h a1 s1 "value" "[B" (.ref a4) ∧ Arv Z h a4 z1 .byte 16 [(.int 60), (.int x4), (.int 62), (.int x5), (.int x6), (.int (b8 x1)), (.int (b8 x2)), (.int (b8 x3)), iZ, iZ, iZ, iZ, iZ, iZ, iZ, iZ] iZ ∧ Fld Z h a1 s1 "coder" "B" iZ ∧ v = some (.ref a1)) := by
  refine CtrN.intro (L0 := #[vr a1, vr a2, un]) (plainFor_of_name pn1) O0 (own_entry rfl) ?_
  intro p e s m below meth c T0 hy hml hret hlk hnm W0
  refine o_aloadN W0 1 (hb hy d12_0) rfl rfl rfl ?_
  refine o_ifnonnullY W0 9 (hb hy d12_1) (by decide) rfl ?_
  refine o_aloadN W0 10 (hb hy d12_9) rfl rfl rfl ?_
  refine o_virtualC W0 (w77 hw) (w78 hw) (o_nf W0 rfl (w80 hw)) (w80 hw) (w79 hw) (by decide) z2 (w81 hw) (w3 hw) (rm82 l hw gCS a2 a3 z0 x1 x2 x3 h0 W0.old z3 z4 z2 SgCS NgCS z5) 0 0 0 (by decide) (by rw [hml]; rfl) (lenOf pd5 rfl) [] rfl rfl 13 (hb hy d12_10) rfl rfl rfl all0 tri ?_
  intro v1 T1 h1 lo1 W1 K1 q1
  obtain rfl := q1.2.2
  show Gl _ _ _ _ _ _ _ _ [(.int 3)]
  refine o_istoreN W1 (L' := #[vr a1, vr a2, vi 3]) 14 (hb hy d12_13) rfl rfl <| o_aloadN W1 15 (hb hy d12_14) rfl rfl rfl <| o_aloadN W1 16 (hb hy d12_15) rfl rfl rfl ?_
  have c2 := (z6.keep K1 nin0)
  refine o_getF W1 (w87 hw) Via.refl c2 19 (hb hy d12_16) rfl ?_
  intro T3 W3
  refine o_iloadN W3 20 (hb hy d12_19) rfl rfl <| o_iadd W3 (v := 8) 21 (hb hy d12_20) (by decide) rfl ?_
  have c4 := (z7.keep K1)
  have c5 := (z8.keep K1 nin0)
  have c6 := (z9.keep K1 nin0)
  have c7 := (z10.keep K1 nin0)
  refine o_privateC W3 (w89 hw) (w90 hw) (w92 hw) (w91 hw) (w93 hw) (by decide) c4 (w51 hw) (rm184 l hw a1 a4 z1 x4 x5 x6 h1 W3.old c5 c6 c7) 0 0 0 (by decide) (by rw [hml]; rfl) (lenOf pd2 rfl) [] rfl rfl 24 (hb hy d12_21) rfl rfl rfl all0 tri ?_
  intro v8 T8 h8 lo8 W8 K8 q8
  obtain rfl := q8.2.2
  show Gl _ _ _ _ _ _ _ _ []
  refine o_aloadN W8 25 (hb hy d12_24) rfl rfl rfl <| o_aloadN W8 26 (hb hy d12_25) rfl rfl rfl ?_
  have c9 := (c2.keep K8 nin0)
  refine o_getF W8 (w87 hw) Via.refl c9 29 (hb hy d12_26) rfl ?_
  intro T10 W10
  refine o_aloadN W10 30 (hb hy d12_29) rfl rfl rfl ?_
  have c11 := (c7.keep K8 nin0)
  have c12 := ((z5.keep K1 nin0).keep K8 nin0)
  have c13 := (c5.keep K8 nin0)
  have c14 := ((z3.keep K1 nin0).keep K8 nin0)
  have c15 := ((z4.keep K1 nin0).keep K8 nin0)
  have c16 := (c6.keep K8 nin0)
  have c17 := (c4.keep K8)
  have c18 := ((z2.keep K1).keep K8)
  refine o_privateC W10 (w94 hw) (w95 hw) (w97 hw) (w96 hw) (w98 hw) (by decide) c17 (w51 hw) (rm186 l hw gCS a1 a2 a4 a3 z0 x1 x2 x3 z1 x4 x5 x6 h8 W10.old c17 SgCS NgCS c11 c18 c12 c13 c14 c15 c16 z11) 0 0 0 (by decide) (by rw [hml]; rfl) (lenOf pd8 rfl) [] rfl rfl 33 (hb hy d12_30) rfl rfl rfl (allS ⟨z11, m0⟩ all0) tri ?_
  intro v19 T19 h19 lo19 W19 K19 q19
  obtain ⟨P19_0, rfl⟩ := q19.2.2
  show Gl _ _ _ _ _ _ _ _ []
  refine o_aloadN W19 34 (hb hy d12_33) rfl rfl rfl <| o_dup W19 35 (hb hy d12_34) rfl rfl ?_
  have c20 := (c17.keep K19)
  have c21 := (c9.keep K19 (ninS (Exa.neArv c17 c16 (w42 hw)) nin0))
  refine o_getF W19 (w87 hw) Via.refl c21 38 (hb hy d12_35) rfl ?_
  intro T22 W22
  refine o_iloadN W22 39 (hb hy d12_38) rfl rfl <| o_iadd W22 (v := 8) 40 (hb hy d12_39) (by decide) rfl ?_
  refine o_putF W22 (w87 hw) Via.refl c21 c20 (Or.inl (w88 hw)) (w42 hw) (ty := .int) (v' := (.int 8)) (by decide) rfl rfl z12 (Or.inl (List.mem_of_getElem? (i := 1) rfl)) tri 43 (hb hy d12_40) rfl ?_
  intro T23 h23 lo23 W23 R23
  have F23 := c21.same R23
  refine o_aloadN W23 44 (hb hy d12_43) rfl rfl rfl ?_
  have c24 := (c20.wr R23)
  have c25 := ((c13.keep K19 (ninS (Exa.neArv c17 c16 (w42 hw)) nin0)).other R23 (Or.inr (slot_ne (Or.inl (w56 hw)) (Or.inl (w88 hw)) (by decide) (t := (.array .byte)) (t' := .int) (by decide) (by decide))))
  have c26 := ((c11.keep K19 (ninS (Exa.neArv c17 c16 (w42 hw)) nin0)).other R23 (Or.inr (slot_ne (Or.inl (w58 hw)) (Or.inl (w88 hw)) (by decide) (t := .byte) (t' := .int) (by decide) (by decide))))
  have c27 := (P19_0.other R23 (Ne.symm (Exa.neArv c20 P19_0 (w42 hw))))
  exact o_retA W23 hlk (v := (.ref a1)) hret rfl rfl (hb hy d12_44) (by decide) (by decide) ⟨F23, c25, c27, c26, rfl⟩
theorem rm188 (l : Launch) {Z a0} (hw : HW Z a0) (gCS : Int32) (a1 a2 a3 : Addr) (z0 : ClassId) (x1 x2 x3 : Int32) (a4 : Addr) (z1 : ClassId) (x4 x5 x6 : Int32) (h0 : Heap) (O0 : Old Z Z.heap.size h0) (z2 : Exa Z h0 a2 s0) (z3 : Fld Z h0 a2 s0 "value" "[B" (.ref a3)) (z4 : Arv Z h0 a3 z0 .byte 3 [(.int (b8 x1)), (.int (b8 x2)), (.int (b8 x3))] iZ) (SgCS : Sta Z Z.heap s0 s3 "Z" (.int gCS)) (NgCS : ¬ (gCS = (0 : Int32))) (z5 : Fld Z h0 a2 s0 "coder" "B" iZ) (z6 : Fld Z h0 a1 s1 "count" "I" (.int 5)) (z7 : Exa Z h0 a1 s2) (z8 : Fld Z h0 a1 s1 "value" "[B" (.ref a4)) (z9 : Arv Z h0 a4 z1 .byte 16 [(.int 60), (.int x4), (.int 62), (.int x5), (.int x6), iZ, iZ, iZ, iZ, iZ, iZ, iZ, iZ, iZ, iZ, iZ] iZ) (z10 : Fld Z h0 a1 s1 "coder" "B" iZ) (z11 : Z.heap.size ≤ a4) (z12 : Z.heap.size ≤ a1) :
    CtrN l Z mn12 jdk_67_method_7_code 2 (some (.object s2)) [] (⟨4, 0, 0, 70⟩ : Room) #[(.ref a1), (.ref a2)] h0 [a1, a4] (fun v h => Fld Z h a1 s1 "count" "I" (.int 8) ∧ Fld Z h a1 s1 "value" "[B" (.ref a4) ∧ Arv Z h a4 z1 .byte 16 [(.int 60), (.int x4), (.int 62), (.int x5), (.int x6), (.int (b8 x1)), (.int (b8 x2)), (.int (b8 x3)), iZ, iZ, iZ, iZ, iZ, iZ, iZ, iZ] iZ ∧ Fld Z h a1 s1 "coder" "B" iZ ∧ v = some (.ref a1)) := by
  refine CtrN.intro (L0 := #[vr a1, vr a2]) (plainFor_of_name pn2) O0 (own_entry rfl) ?_
  intro p e s m below meth c T0 hy hml hret hlk hnm W0
  refine o_aloadN W0 1 (hb hy d11_0) rfl rfl rfl <| o_aloadN W0 2 (hb hy d11_1) rfl rfl rfl ?_
  refine o_superC W0 (by decide) (w72 hw) (w73 hw) (own_sameN (y := mn11) (y2 := mn7) (by decide) (w73 hw) rfl (w90 hw) (w92 hw)) (w74 hw) (w76 hw) (Ins.self z7) (w51 hw) (rm187 l hw gCS a1 a2 a3 z0 x1 x2 x3 a4 z1 x4 x5 x6 h0 W0.old z2 z3 z4 SgCS NgCS z5 z6 z7 z8 z9 z10 z11 z12) 0 0 0 (by decide) (by rw [hml]; rfl) (lenOf pd9 rfl) [] rfl rfl 5 (hb hy d11_2) rfl rfl rfl (allS ⟨z11, (Or.inl (List.mem_of_getElem? (i := 1) rfl))⟩ (allS ⟨z12, m0⟩ all0)) tri ?_
  intro v1 T1 h1 lo1 W1 K1 q1
  obtain ⟨P1_0, P1_1, P1_2, P1_3, rfl⟩ := q1.2.2
  show Gl _ _ _ _ _ _ _ _ [(.ref a1)]
  refine o_pop W1 6 (hb hy d11_5) rfl rfl <| o_aloadN W1 7 (hb hy d11_6) rfl rfl rfl ?_
  have c2 := (z7.keep K1)
  exact o_retA W1 hlk (v := (.ref a1)) hret rfl rfl (hb hy d11_7) (by decide) (by decide) ⟨P1_0, P1_1, P1_2, P1_3, rfl⟩
theorem rm189 (l : Launch) {Z a0} (hw : HW Z a0) (a1 a2 : Addr) (z0 : ClassId) (x1 x2 x3 x4 x5 x6 : Int32) (h0 : Heap) (O0 : Old Z Z.heap.size h0) (z1 : Fld Z h0 a1 s1 "value" "[B" (.ref a2)) (z2 : Arv Z h0 a2 z0 .byte 16 [(.int 60), (.int x1), (.int 62), (.int x2), (.int x3), (.int x4), (.int x5), (.int x6), iZ, iZ, iZ, iZ, iZ, iZ, iZ, iZ] iZ) (z3 : Fld Z h0 a1 s1 "coder" "B" iZ) :
    CtrN l Z mn7 jdk_68_method_9_code 3 none [] (⟨0, 0, 0, 0⟩ : Room) #[(.ref a1), (.int 9)] h0 [] (fun v h => v = none) := by
  refine CtrN.intro (L0 := #[vr a1, vi 9, un]) (plainFor_of_name pn1) O0 (own_entry rfl) ?_
  intro p e s m below meth c T0 hy hml hret hlk hnm W0
  refine o_aloadN W0 1 (hb hy d15_0) rfl rfl rfl ?_
  refine o_getF W0 (w55 hw) Via.refl z1 4 (hb hy d15_1) rfl ?_
  intro T1 W1
  refine o_len W1 z2 5 (hb hy d15_4) rfl <| o_aloadN W1 6 (hb hy d15_5) rfl rfl rfl ?_
  refine o_getF W1 (w57 hw) Via.refl z3 9 (hb hy d15_6) rfl ?_
  intro T2 W2
  refine o_ishr W2 (v := 16) 10 (hb hy d15_9) (by decide) rfl <| o_istoreN W2 (L' := #[vr a1, vi 9, vi 16]) 11 (hb hy d15_10) rfl rfl <| o_iloadN W2 12 (hb hy d15_11) rfl rfl <| o_iloadN W2 13 (hb hy d15_12) rfl rfl <| o_isub W2 (v := (-7 : Int32)) 14 (hb hy d15_13) (by decide) rfl <| o_ifY W2 38 (hb hy d15_14) (XT.i0_le_t (by decide)) (by decide) rfl ?_
  exact o_ret0 W2 hlk hret (hb hy d15_38) (by decide) (by decide) rfl
theorem rm190 (l : Launch) {Z a0} (hw : HW Z a0) (gCS : Int32) (a1 a2 : Addr) (z0 : ClassId) (x1 x2 x3 x4 x5 x6 : Int32) (h0 : Heap) (O0 : Old Z Z.heap.size h0) (z1 : Fld Z h0 a1 s1 "count" "I" (.int 8)) (z2 : Exa Z h0 a1 s2) (z3 : Fld Z h0 a1 s1 "value" "[B" (.ref a2)) (z4 : Arv Z h0 a2 z0 .byte 16 [(.int 60), (.int x1), (.int 62), (.int x2), (.int x3), (.int x4), (.int x5), (.int x6), iZ, iZ, iZ, iZ, iZ, iZ, iZ, iZ] iZ) (z5 : Fld Z h0 a1 s1 "coder" "B" iZ) (SgCS : Sta Z Z.heap s0 s3 "Z" (.int gCS)) (NgCS : ¬ (gCS = (0 : Int32))) (z6 : Z.heap.size ≤ a1) (z7 : Z.heap.size ≤ a2) :
    CtrN l Z mn15 jdk_68_method_31_code 2 (some (.object s1)) [] (⟨1, 0, 0, 14⟩ : Room) #[(.ref a1), (.int 62)] h0 [a1, a2] (fun v h => Fld Z h a1 s1 "count" "I" (.int 9) ∧ Fld Z h a1 s1 "value" "[B" (.ref a2) ∧ Arv Z h a2 z0 .byte 16 [(.int 60), (.int x1), (.int 62), (.int x2), (.int x3), (.int x4), (.int x5), (.int x6), (.int 62), iZ, iZ, iZ, iZ, iZ, iZ, iZ] iZ ∧ Fld Z h a1 s1 "coder" "B" iZ ∧ v = some (.ref a1)) := by
  refine CtrN.intro (L0 := #[vr a1, vi 62]) (plainFor_of_name pn1) O0 (own_entry rfl) ?_
  intro p e s m below meth c T0 hy hml hret hlk hnm W0
  refine o_aloadN W0 1 (hb hy d20_0) rfl rfl rfl <| o_aloadN W0 2 (hb hy d20_1) rfl rfl rfl ?_
  refine o_getF W0 (w87 hw) Via.refl z1 5 (hb hy d20_2) rfl ?_
  intro T1 W1
  refine o_iconst W1 (v := 1) 6 (hb hy d20_5) rfl rfl <| o_iadd W1 (v := 9) 7 (hb hy d20_6) (by decide) rfl ?_
  refine o_privateC W1 (w89 hw) (w90 hw) (w92 hw) (w91 hw) (w93 hw) (by decide) z2 (w51 hw) (rm189 l hw a1 a2 z0 x1 x2 x3 x4 x5 x6 h0 W1.old z3 z4 z5) 0 0 0 (by decide) (by rw [hml]; rfl) (lenOf pd2 rfl) [] rfl rfl 10 (hb hy d20_7) rfl rfl rfl all0 tri ?_
  intro v2 T2 h2 lo2 W2 K2 q2
  obtain rfl := q2.2.2
  show Gl _ _ _ _ _ _ _ _ []
  refine o_aloadN W2 11 (hb hy d20_10) rfl rfl rfl ?_
  have c3 := (z5.keep K2 nin0)
  have c4 := (z2.keep K2)
  refine o_virtualC W2 (w123 hw) (w124 hw) (o_nf W2 rfl (w126 hw)) (w126 hw) (w125 hw) (by decide) c4 (w127 hw) (w51 hw) (rm21 l hw gCS a1 h2 W2.old SgCS NgCS c3) 0 0 0 (by decide) (by rw [hml]; rfl) (lenOf pd11 rfl) [] rfl rfl 14 (hb hy d20_11) rfl rfl rfl all0 tri ?_
  intro v5 T5 h5 lo5 W5 K5 q5
  obtain rfl := q5.2.2
  show Gl _ _ _ _ _ _ _ _ [(.int 1)]
  refine o_ifN W5 17 (hb hy d20_14) (XT.i0_eq_f (by decide)) rfl <| o_iloadN W5 18 (hb hy d20_17) rfl rfl ?_
  refine o_staticC W5 (w128 hw) (w129 hw) (w130 hw) (w131 hw) (by decide) (rm22 l hw  h5 W5.old ) 0 0 0 (by decide) (by rw [hml]; rfl) (lenOf pd12 rfl) [] rfl rfl 21 (hb hy d20_18) rfl rfl rfl all0 tri ?_
  intro v6 T6 h6 lo6 W6 K6 q6
  obtain rfl := q6.2.2
  show Gl _ _ _ _ _ _ _ _ [(.int 1)]
  refine o_ifN W6 24 (hb hy d20_21) (XT.i0_eq_f (by decide)) rfl <| o_aloadN W6 25 (hb hy d20_24) rfl rfl rfl ?_
  have c7 := (((z3.keep K2 nin0).keep K5 nin0).keep K6 nin0)
  refine o_getF W6 (w55 hw) Via.refl c7 28 (hb hy d20_25) rfl ?_
  intro T8 W8
  refine o_aloadN W8 29 (hb hy d20_28) rfl rfl rfl <| o_dup W8 30 (hb hy d20_29) rfl rfl ?_
  have c9 := (((z1.keep K2 nin0).keep K5 nin0).keep K6 nin0)
  refine o_getF W8 (w87 hw) Via.refl c9 33 (hb hy d20_30) rfl ?_
  intro T10 W10
  refine o_dupX1 W10 34 (hb hy d20_33) rfl rfl rfl <| o_iconst W10 (v := 1) 35 (hb hy d20_34) rfl rfl <| o_iadd W10 (v := 9) 36 (hb hy d20_35) (by decide) rfl ?_
  have c11 := ((c4.keep K5).keep K6)
  refine o_putF W10 (w87 hw) Via.refl c9 c11 (Or.inl (w88 hw)) (w42 hw) (ty := .int) (v' := (.int 9)) (by decide) rfl rfl z6 m0 tri 39 (hb hy d20_36) rfl ?_
  intro T12 h12 lo12 W12 R12
  have F12 := c9.same R12
  refine o_iloadN W12 40 (hb hy d20_39) rfl rfl <| o_i2b W12 (v := 62) 41 (hb hy d20_40) (by decide) rfl ?_
  have c13 := (c11.wr R12)
  have c14 := (((z4.keep K2 nin0).keep K5 nin0).keep K6 nin0)
  have c15 := ((((z4.keep K2 nin0).keep K5 nin0).keep K6 nin0).other R12 (Ne.symm (Exa.neArv c11 c14 (w42 hw))))
  refine o_stB W12 c15 (i := 8) (x' := (62 : Int32)) (by decide) (by decide) (by decide) (Nat.lt_of_sub_eq_succ rfl) (by decide) (vs' := [(.int 60), (.int x1), (.int 62), (.int x2), (.int x3), (.int x4), (.int x5), (.int x6), (.int 62), iZ, iZ, iZ, iZ, iZ, iZ, iZ]) rfl z7 (Or.inl (List.mem_of_getElem? (i := 1) rfl)) tri 42 (hb hy d20_41) rfl ?_
  intro T16 h16 lo16 W16 R16 V16
  refine o_goto W16 75 (hb hy d20_42) (by decide) rfl <| o_aloadN W16 76 (hb hy d20_75) rfl rfl rfl ?_
  have c17 := (c13.wr R16)
  have c18 := (F12.other R16 (Or.inl (Exa.neArv c13 c15 (w42 hw))))
  have c19 := ((c7.other R12 (Or.inr (slot_ne (Or.inl (w56 hw)) (Or.inl (w88 hw)) (by decide) (t := (.array .byte)) (t' := .int) (by decide) (by decide)))).other R16 (Or.inl (Exa.neArv c13 c15 (w42 hw))))
  have c20 := ((((c3.keep K5 nin0).keep K6 nin0).other R12 (Or.inr (slot_ne (Or.inl (w58 hw)) (Or.inl (w88 hw)) (by decide) (t := .byte) (t' := .int) (by decide) (by decide)))).other R16 (Or.inl (Exa.neArv c13 c15 (w42 hw))))
  exact o_retA W16 hlk (v := (.ref a1)) hret rfl rfl (hb hy d20_76) (by decide) (by decide) ⟨c18, c19, V16, c20, rfl⟩
theorem rm191 (l : Launch) {Z a0} (hw : HW Z a0) (gCS : Int32) (a1 a2 : Addr) (z0 : ClassId) (x1 x2 x3 x4 x5 x6 : Int32) (h0 : Heap) (O0 : Old Z Z.heap.size h0) (z1 : Fld Z h0 a1 s1 "count" "I" (.int 8)) (z2 : Exa Z h0 a1 s2) (z3 : Fld Z h0 a1 s1 "value" "[B" (.ref a2)) (z4 : Arv Z h0 a2 z0 .byte 16 [(.int 60), (.int x1), (.int 62), (.int x2), (.int x3), (.int x4), (.int x5), (.int x6), iZ, iZ, iZ, iZ, iZ, iZ, iZ, iZ] iZ) (z5 : Fld Z h0 a1 s1 "coder" "B" iZ) (SgCS : Sta Z Z.heap s0 s3 "Z" (.int gCS)) (NgCS : ¬ (gCS = (0 : Int32))) (z6 : Z.heap.size ≤ a1) (z7 : Z.heap.size ≤ a2) :
    CtrN l Z mn16 jdk_67_method_14_code 2 (some (.object s2)) [] (⟨2, 0, 0, 27⟩ : Room) #[(.ref a1), (.int 62)] h0 [a2, a1] (fun v h => Fld Z h a1 s1 "count" "I" (.int 9) ∧ Fld Z h a1 s1 "value" "[B" (.ref a2) ∧ Arv Z h a2 z0 .byte 16 [(.int 60), (.int x1), (.int 62), (.int x2), (.int x3), (.int x4), (.int x5), (.int x6), (.int 62), iZ, iZ, iZ, iZ, iZ, iZ, iZ] iZ ∧ Fld Z h a1 s1 "coder" "B" iZ ∧ v = some (.ref a1)) := by
  refine CtrN.intro (L0 := #[vr a1, vi 62]) (plainFor_of_name pn2) O0 (own_entry rfl) ?_
  intro p e s m below meth c T0 hy hml hret hlk hnm W0
  refine o_aloadN W0 1 (hb hy d19_0) rfl rfl rfl <| o_iloadN W0 2 (hb hy d19_1) rfl rfl ?_
  refine o_superC W0 (by decide) (w119 hw) (w120 hw) (own_sameN (y := mn15) (y2 := mn7) (by decide) (w120 hw) rfl (w90 hw) (w92 hw)) (w74 hw) (w122 hw) (Ins.self z2) (w51 hw) (rm190 l hw gCS a1 a2 z0 x1 x2 x3 x4 x5 x6 h0 W0.old z1 z2 z3 z4 z5 SgCS NgCS z6 z7) 0 0 0 (by decide) (by rw [hml]; rfl) (lenOf pd13 rfl) [] rfl rfl 5 (hb hy d19_2) rfl rfl rfl (allS ⟨z6, (Or.inl (List.mem_of_getElem? (i := 1) rfl))⟩ (allS ⟨z7, m0⟩ all0)) tri ?_
  intro v1 T1 h1 lo1 W1 K1 q1
  obtain ⟨P1_0, P1_1, P1_2, P1_3, rfl⟩ := q1.2.2
  show Gl _ _ _ _ _ _ _ _ [(.ref a1)]
  refine o_pop W1 6 (hb hy d19_5) rfl rfl <| o_aloadN W1 7 (hb hy d19_6) rfl rfl rfl ?_
  have c2 := (z2.keep K1)
  exact o_retA W1 hlk (v := (.ref a1)) hret rfl rfl (hb hy d19_7) (by decide) (by decide) ⟨P1_0, P1_1, P1_2, P1_3, rfl⟩
theorem rm192 (l : Launch) {Z a0} (hw : HW Z a0) (gCS : Int32) (a1 a2 a3 a4 : Addr) (z0 : ClassId) (x1 : Int32) (a5 : Addr) (z1 : ClassId) (x2 x3 x4 : Int32) (h0 : Heap) (O0 : Old Z Z.heap.size h0) (z2 : Fld Z h0 a1 s4 "out" s5 (.ref a3)) (z3 : Exa Z h0 a3 s2) (SgCS : Sta Z Z.heap s0 s3 "Z" (.int gCS)) (NgCS : ¬ (gCS = (0 : Int32))) (z4 : Fld Z h0 a3 s1 "count" "I" (.int 3)) (z5 : Fld Z h0 a3 s1 "value" "[B" (.ref a4)) (z6 : Arv Z h0 a4 z0 .byte 16 [(.int 60), (.int x1), (.int 62), iZ, iZ, iZ, iZ, iZ, iZ, iZ, iZ, iZ, iZ, iZ, iZ, iZ] iZ) (z7 : Fld Z h0 a3 s1 "coder" "B" iZ) (z8 : Z.heap.size ≤ a4) (z9 : Z.heap.size ≤ a3) (z10 : Exa Z h0 a2 s0) (z11 : Fld Z h0 a2 s0 "value" "[B" (.ref a5)) (z12 : Arv Z h0 a5 z1 .byte 3 [(.int (b8 x2)), (.int (b8 x3)), (.int (b8 x4))] iZ) (z13 : a4 ≠ a5) (z14 : Fld Z h0 a2 s0 "coder" "B" iZ) :
    CtrW l Z consts_1 mn17 prog_5_method_3_code 2 (some (.object s4)) [] (⟨5, 2, 12, 83⟩ : Room) #[(.ref a1), (.ref a2)] h0 [a4, a3] (fun v h => Fld Z h a3 s1 "count" "I" (.int 9) ∧ Fld Z h a3 s1 "value" "[B" (.ref a4) ∧ Arv Z h a4 z0 .byte 16 [(.int 60), (.int x1), (.int 62), (.int (b8 60)), (.int (b8 47)), (.int (b8 x2)), (.int (b8 x3)), (.int (b8 x4)), (.int 62), iZ, iZ, iZ, iZ, iZ, iZ, iZ] iZ ∧ Fld Z h a3 s1 "coder" "B" iZ ∧ v = some (.ref a1)) := by
  refine CtrW.intro (L0 := #[vr a1, vr a2]) (plainFor_of_name pn3) O0 (own_entry rfl) ?_
  intro p e s m below meth c T0 V0 hy hml hret hlk hnm W0
  refine o_aloadN W0 1 (hb hy d10_0) rfl rfl rfl ?_
  refine o_getF W0 (w59 hw) Via.refl z2 4 (hb hy d10_1) rfl ?_
  intro T1 W1
  refine o_ldcR W1 (w66 hw) (own_wS hw) (own_EL hw) (by simp [consts_1]) 6 (hb hy d10_4) rfl (n := 8) (by decide) (by decide) (cells' := 2) (slots' := 12) rfl rfl (by decide) (by decide) (vs := [(.int (b8 60)), (.int (b8 47))]) (z := (2 : Int32)) ⟨by decide, by decide⟩ (by decide) (by decide) ?_
  intro s2 T2 h2 V2 t2 k2 W2 E2 C2 X2 Fc2 Fv2 A2 ns2
  have c3 := (z3.ext E2)
  have c4 := (z4.ext E2)
  have c5 := (z5.ext E2)
  have c6 := (z6.ext E2)
  have c7 := (z7.ext E2)
  refine o_virtualC W2 (w67 hw) (w68 hw) (o_nf W2 rfl (w70 hw)) (w70 hw) (w69 hw) (by decide) c3 (w71 hw) (w43 hw) (rm125 l hw gCS a3 s2 t2 k2 a4 z0 x1 h2 W2.old X2 Fv2 A2 SgCS NgCS Fc2 c4 c3 c5 c6 c7 z8 z9) 0 2 12 (by decide) (by rw [hml]; rfl) (lenOf pd10 rfl) [] rfl rfl 9 (hb hy d10_6) rfl rfl rfl (allS ⟨z9, (Or.inl (List.mem_of_getElem? (i := 1) rfl))⟩ (allS ⟨z8, m0⟩ all0)) (fun _ K => IW.keep K (sfS (Safe.exa W2.al c3 (by decide) (by decide)) (sfS (own_safeB W2.2.2.2.1 (n := 16) (by decide) (own_EL16 hw) c6) sf0)) W2.inv) ?_
  intro v8 T8 h8 lo8 W8 K8 q8
  obtain ⟨P8_0, P8_1, P8_2, P8_3, rfl⟩ := q8.2.2
  show Gl _ _ _ _ _ _ _ _ [(.ref a3)]
  refine o_aloadN W8 10 (hb hy d10_9) rfl rfl rfl ?_
  have c9 := ((z10.ext E2).keep K8)
  have c10 := (z10.ext E2)
  have c11 := (c3.keep K8)
  have c12 := ((z11.ext E2).keep K8 (ninS (Exa.ne c10 c3 (by decide)) (ninS (Exa.neArv c10 c6 (w2 hw)) nin0)))
  have c13 := (z12.ext E2)
  have c14 := ((z12.ext E2).keep K8 (ninS (Ne.symm (Exa.neArv c3 c13 (w42 hw))) (ninS (Ne.symm z13) nin0)))
  have c15 := ((z14.ext E2).keep K8 (ninS (Exa.ne c10 c3 (by decide)) (ninS (Exa.neArv c10 c6 (w2 hw)) nin0)))
  refine o_virtualC W8 (w67 hw) (w68 hw) (o_nf W8 rfl (w70 hw)) (w70 hw) (w69 hw) (by decide) c11 (w71 hw) (w43 hw) (rm188 l hw gCS a3 a2 a5 z1 x2 x3 x4 a4 z0 x1 (b8 60) (b8 47) h8 W8.old c9 c12 c14 SgCS NgCS c15 P8_0 c11 P8_1 P8_2 P8_3 z8 z9) 0 2 12 (by decide) (by rw [hml]; rfl) (lenOf pd10 rfl) [] rfl rfl 13 (hb hy d10_10) rfl rfl rfl (allS ⟨z9, (Or.inl (List.mem_of_getElem? (i := 1) rfl))⟩ (allS ⟨z8, m0⟩ all0)) (fun _ K => IW.keep K (sfS (Safe.exa W8.al c11 (by decide) (by decide)) (sfS (own_safeB W8.2.2.2.1 (n := 16) (by decide) (own_EL16 hw) P8_2) sf0)) W8.inv) ?_
  intro v16 T16 h16 lo16 W16 K16 q16
  obtain ⟨P16_0, P16_1, P16_2, P16_3, rfl⟩ := q16.2.2
  show Gl _ _ _ _ _ _ _ _ [(.ref a3)]
  refine o_bipush W16 (v := 62) 15 (hb hy d10_13) (by decide) rfl ?_
  have c17 := (c11.keep K16)
  refine o_virtualC W16 (w114 hw) (w115 hw) (o_nf W16 rfl (w117 hw)) (w117 hw) (w116 hw) (by decide) c17 (w118 hw) (w43 hw) (rm191 l hw gCS a3 a4 z0 x1 (b8 60) (b8 47) (b8 x2) (b8 x3) (b8 x4) h16 W16.old P16_0 c17 P16_1 P16_2 P16_3 SgCS NgCS z9 z8) 0 2 12 (by decide) (by rw [hml]; rfl) (lenOf pd14 rfl) [] rfl rfl 18 (hb hy d10_15) rfl rfl rfl (allS ⟨z8, m0⟩ (allS ⟨z9, (Or.inl (List.mem_of_getElem? (i := 1) rfl))⟩ all0)) (fun _ K => IW.keep K (sfS (own_safeB W16.2.2.2.1 (n := 16) (by decide) (own_EL16 hw) P16_2) (sfS (Safe.exa W16.al c17 (by decide) (by decide)) sf0)) W16.inv) ?_
  intro v18 T18 h18 lo18 W18 K18 q18
  obtain ⟨P18_0, P18_1, P18_2, P18_3, rfl⟩ := q18.2.2
  show Gl _ _ _ _ _ _ _ _ [(.ref a3)]
  refine o_pop W18 19 (hb hy d10_18) rfl rfl <| o_aloadN W18 20 (hb hy d10_19) rfl rfl rfl ?_
  have c19 := (c17.keep K18)
  exact o_retAW W18 (own_EL hw) hlk (v := (.ref a1)) hret rfl rfl (hb hy d10_20) (by decide) (by decide) ⟨P18_0, P18_1, P18_2, P18_3, rfl⟩
theorem rm193 (l : Launch) {Z a0} (hw : HW Z a0) (a1 : Addr) (h0 : Heap) (O0 : Old Z Z.heap.size h0) (z0 : Fld Z h0 a1 s1 "count" "I" (.int 9)) :
    CtrN l Z mn19 jdk_68_method_6_code 1 (some .int) [] (⟨0, 0, 0, 0⟩ : Room) #[(.ref a1)] h0 [] (fun v h => v = some (.int 9)) := by
  refine CtrN.intro (L0 := #[vr a1]) (plainFor_of_name pn1) O0 (own_entry rfl) ?_
  intro p e s m below meth c T0 hy hml hret hlk hnm W0
  refine o_aloadN W0 1 (hb hy d29_0) rfl rfl rfl ?_
  refine o_getF W0 (w87 hw) Via.refl z0 4 (hb hy d29_1) rfl ?_
  intro T1 W1
  exact o_retI W1 hlk hret (hb hy d29_4) (by decide) (by decide) rfl
theorem rm194 (l : Launch) {Z a0} (hw : HW Z a0) (a1 : Addr) (h0 : Heap) (O0 : Old Z Z.heap.size h0) (z0 : Fld Z h0 a1 s1 "count" "I" (.int 9)) (z1 : Exa Z h0 a1 s2) :
    CtrN l Z mn20 jdk_67_method_93_code 1 (some .int) [] (⟨1, 0, 0, 12⟩ : Room) #[(.ref a1)] h0 [] (fun v h => v = some (.int 9)) := by
  refine CtrN.intro (L0 := #[vr a1]) (plainFor_of_name pn2) O0 (own_entry rfl) ?_
  intro p e s m below meth c T0 hy hml hret hlk hnm W0
  refine o_aloadN W0 1 (hb hy d28_0) rfl rfl rfl ?_
  refine o_superC W0 (by decide) (w160 hw) (w156 hw) (own_sameN (y := mn19) (y2 := mn7) (by decide) (w156 hw) rfl (w90 hw) (w92 hw)) (w74 hw) (w161 hw) (Ins.self z1) (w51 hw) (rm193 l hw a1 h0 W0.old z0) 0 0 0 (by decide) (by rw [hml]; rfl) (lenOf pd5 rfl) [] rfl rfl 4 (hb hy d28_1) rfl rfl rfl all0 tri ?_
  intro v1 T1 h1 lo1 W1 K1 q1
  obtain rfl := q1.2.2
  show Gl _ _ _ _ _ _ _ _ [(.int 9)]
  exact o_retI W1 hlk hret (hb hy d28_4) (by decide) (by decide) rfl
theorem rm195 (l : Launch) {Z a0} (hw : HW Z a0)  (h0 : Heap) (O0 : Old Z Z.heap.size h0) :
    CtrN l Z mn21 jdk_65_method_131_code 2 none [] (⟨0, 0, 0, 0⟩ : Room) #[iZ, (.int 9)] h0 [] (fun v h => v = none) := by
  refine CtrN.intro (L0 := #[vi 0, vi 9]) (plainFor_of_name pn5) O0 (own_entry rfl) ?_
  intro p e s m below meth c T0 hy hml hret hlk hnm W0
  refine o_iloadN W0 1 (hb hy d32_0) rfl rfl <| o_iloadN W0 2 (hb hy d32_1) rfl rfl <| o_icmpY W0 37 (hb hy d32_2) (XT.ii_ge_t (by decide)) (by decide) rfl ?_
  exact o_ret0 W0 hlk hret (hb hy d32_37) (by decide) (by decide) rfl
theorem rm196 (l : Launch) {Z a0} (hw : HW Z a0)  (h0 : Heap) (O0 : Old Z Z.heap.size h0) :
    CtrN l Z mn22 jdk_29_method_69_code 2 (some .int) [] (⟨0, 0, 0, 0⟩ : Room) #[(.int 16), (.int 9)] h0 [] (fun v h => v = some (.int 9)) := by
  refine CtrN.intro (L0 := #[vi 16, vi 9]) (Jvm.Free.JP.mathPlain rfl (by decide +kernel)) O0 (own_entry rfl) ?_
  intro p e s m below meth c T0 hy hml hret hlk hnm W0
  refine o_iloadN W0 1 (hb hy d33_0) rfl rfl <| o_iloadN W0 2 (hb hy d33_1) rfl rfl <| o_icmpY W0 9 (hb hy d33_2) (XT.ii_gt_t (by decide)) (by decide) rfl <| o_iloadN W0 10 (hb hy d33_9) rfl rfl ?_
  exact o_retI W0 hlk hret (hb hy d33_10) (by decide) (by decide) rfl
theorem rm197 (l : Launch) {Z a0} (hw : HW Z a0) (a1 : Addr) (z0 : ClassId) (x1 x2 x3 x4 x5 x6 : Int32) (h0 : Heap) (O0 : Old Z Z.heap.size h0) (z1 : Arv Z h0 a1 z0 .byte 16 [(.int 60), (.int x1), (.int 62), (.int x2), (.int x3), (.int x4), (.int x5), (.int x6), (.int 62), iZ, iZ, iZ, iZ, iZ, iZ, iZ] iZ) :
    CtrN l Z mn23 jdk_65_method_133_code 5 (some (.array .byte)) [] (⟨1, 1, 9, 27⟩ : Room) #[(.ref a1), iZ, (.int 9)] h0 [] (fun v h => ∃ r1 : Addr, ∃ r2 : ClassId, h0.size ≤ r1 ∧ Arv Z h r1 r2 .byte 9 [(.int 60), (.int x1), (.int 62), (.int x2), (.int x3), (.int x4), (.int x5), (.int x6), (.int 62)] iZ ∧ v = some (.ref r1)) := by
  refine CtrN.intro (L0 := #[vr a1, vi 0, vi 9, un, un]) (plainFor_of_name pn5) O0 (own_entry rfl) ?_
  intro p e s m below meth c T0 hy hml hret hlk hnm W0
  refine o_iloadN W0 1 (hb hy d31_0) rfl rfl <| o_iloadN W0 2 (hb hy d31_1) rfl rfl ?_
  refine o_staticC W0 (w170 hw) (w171 hw) (w165 hw) (w172 hw) (by decide) (rm195 l hw  h0 W0.old ) 0 0 0 (by decide) (by rw [hml]; rfl) (lenOf pd17 rfl) [] rfl rfl 5 (hb hy d31_2) rfl rfl rfl all0 tri ?_
  intro v1 T1 h1 lo1 W1 K1 q1
  obtain rfl := q1.2.2
  show Gl _ _ _ _ _ _ _ _ []
  refine o_iloadN W1 6 (hb hy d31_5) rfl rfl <| o_iloadN W1 7 (hb hy d31_6) rfl rfl <| o_isub W1 (v := 9) 8 (hb hy d31_7) (by decide) rfl <| o_istoreN W1 (L' := #[vr a1, vi 0, vi 9, vi 9, un]) 9 (hb hy d31_8) rfl rfl <| o_iloadN W1 10 (hb hy d31_9) rfl rfl ?_
  refine o_newP W1 (aty := .byte) (w15 hw) tri (by decide) (cap := 9) (by decide) (by decide) 12 (hb hy d31_10) rfl (cells' := 1) (slots' := 9) rfl rfl (by decide) (by decide) (vs := [iZ, iZ, iZ, iZ, iZ, iZ, iZ, iZ, iZ]) (dv := iZ) rfl rfl ?_
  intro b2 T2 h2 k2 W2 E2 ge2 gz2 gb2 V2
  refine o_astore W2 (L' := #[vr a1, vi 0, vi 9, vi 9, vr b2]) 14 (hb hy d31_12) rfl rfl rfl <| o_aloadN W2 15 (hb hy d31_14) rfl rfl rfl <| o_iloadN W2 16 (hb hy d31_15) rfl rfl <| o_aload W2 18 (hb hy d31_16) rfl rfl rfl <| o_iconst W2 (v := 0) 19 (hb hy d31_18) rfl rfl <| o_aloadN W2 20 (hb hy d31_19) rfl rfl rfl ?_
  have c3 := ((z1.keep K1 nin0).ext E2)
  refine o_len W2 c3 21 (hb hy d31_20) rfl <| o_iloadN W2 22 (hb hy d31_21) rfl rfl <| o_isub W2 (v := 16) 23 (hb hy d31_22) (by decide) rfl <| o_iloadN W2 24 (hb hy d31_23) rfl rfl ?_
  refine o_staticC W2 (w173 hw) (w174 hw) (w175 hw) (w176 hw) (by decide) (rm196 l hw  h2 W2.old ) 4 1 9 (by decide) (by rw [hml]; rfl) (lenOf pd18 rfl) [iZ, (.ref b2), iZ, (.ref a1)] rfl rfl 27 (hb hy d31_24) rfl rfl rfl all0 tri ?_
  intro v4 T4 h4 lo4 W4 K4 q4
  obtain rfl := q4.2.2
  show Gl _ _ _ _ _ _ _ _ [(.int 9), iZ, (.ref b2), iZ, (.ref a1)]
  have c5 := (c3.keep K4 nin0)
  have c6 := (V2.keep K4 nin0)
  refine o_copy W4 (w177 hw) (w113 hw) (w111 hw) (w112 hw) c5 c6 (us := [(.int 60), (.int x1), (.int 62), (.int x2), (.int x3), (.int x4), (.int x5), (.int x6), (.int 62)]) (Or.inl ⟨rfl, rfl⟩) (by decide) (by decide) (by decide) (by decide) (by decide) rfl (Nat.le_of_ble_eq_true rfl) (vd' := [(.int 60), (.int x1), (.int 62), (.int x2), (.int x3), (.int x4), (.int x5), (.int x6), (.int 62)]) rfl gz2 (Or.inr gb2) tri (by rw [hml]; rfl) 30 (hb hy d31_27) rfl (by decide) 0 (by exact Nat.le_of_eq rfl) (by decide) ?_
  intro T7 h7 lo7 W7 K7 V7
  refine o_aload W7 32 (hb hy d31_30) rfl rfl rfl ?_
  exact o_retA W7 hlk (v := (.ref b2)) hret rfl rfl (hb hy d31_32) (by decide) (by decide) ⟨b2, k2, gb2, V7, rfl⟩
theorem rm198 (l : Launch) {Z a0} (hw : HW Z a0) (a1 : Addr) (z0 : ClassId) (x1 x2 x3 x4 x5 x6 : Int32) (h0 : Heap) (O0 : Old Z Z.heap.size h0) (z1 : Arv Z h0 a1 z0 .byte 16 [(.int 60), (.int x1), (.int 62), (.int x2), (.int x3), (.int x4), (.int x5), (.int x6), (.int 62), iZ, iZ, iZ, iZ, iZ, iZ, iZ] iZ) :
    CtrN l Z mn24 jdk_65_method_132_code 3 (some (.array .byte)) [] (⟨2, 1, 9, 43⟩ : Room) #[(.ref a1), iZ, (.int 9)] h0 [] (fun v h => ∃ r1 : Addr, ∃ r2 : ClassId, h0.size ≤ r1 ∧ Arv Z h r1 r2 .byte 9 [(.int 60), (.int x1), (.int 62), (.int x2), (.int x3), (.int x4), (.int x5), (.int x6), (.int 62)] iZ ∧ v = some (.ref r1)) := by
  refine CtrN.intro (L0 := #[vr a1, vi 0, vi 9]) (plainFor_of_name pn5) O0 (own_entry rfl) ?_
  intro p e s m below meth c T0 hy hml hret hlk hnm W0
  refine o_iloadN W0 1 (hb hy d30_0) rfl rfl <| o_ifN W0 4 (hb hy d30_1) (XT.i0_ne_f (by decide)) rfl <| o_iloadN W0 5 (hb hy d30_4) rfl rfl <| o_aloadN W0 6 (hb hy d30_5) rfl rfl rfl <| o_len W0 z1 7 (hb hy d30_6) rfl <| o_icmpN W0 10 (hb hy d30_7) (XT.ii_eq_f (by decide)) rfl ?_
  refine o_aloadN W0 11 (hb hy d30_10) rfl rfl rfl <| o_iloadN W0 12 (hb hy d30_11) rfl rfl <| o_iloadN W0 13 (hb hy d30_12) rfl rfl ?_
  refine o_staticC W0 (w167 hw) (w168 hw) (w165 hw) (w169 hw) (by decide) (rm197 l hw a1 z0 x1 x2 x3 x4 x5 x6 h0 W0.old z1) 0 1 9 (by decide) (by rw [hml]; rfl) (lenOf pd19 rfl) [] rfl rfl 16 (hb hy d30_13) rfl rfl rfl all0 tri ?_
  intro v1 T1 h1 lo1 W1 K1 q1
  obtain ⟨r1_1, r2_1, P1_0, P1_1, rfl⟩ := q1.2.2
  show Gl _ _ _ _ _ _ _ _ [(.ref r1_1)]
  exact o_retA W1 hlk (v := (.ref r1_1)) hret rfl rfl (hb hy d30_16) (by decide) (by decide) ⟨r1_1, r2_1, (Nat.le_trans W0.keep.1 P1_0), P1_1, rfl⟩
theorem rm199 (l : Launch) {Z a0} (hw : HW Z a0) (gCS : Int32) (a1 a2 a3 : Addr) (z0 : ClassId) (x1 x2 x3 x4 x5 x6 : Int32) (h0 : Heap) (O0 : Old Z Z.heap.size h0) (z1 : Exa Z h0 a2 s2) (z2 : Fld Z h0 a2 s1 "value" "[B" (.ref a3)) (z3 : Fld Z h0 a2 s1 "count" "I" (.int 9)) (SgCS : Sta Z Z.heap s0 s3 "Z" (.int gCS)) (NgCS : ¬ (gCS = (0 : Int32))) (z4 : Fld Z h0 a2 s1 "coder" "B" iZ) (z5 : Exa Z h0 a1 s0) (z6 : Fld Z h0 a1 s0 "coder" "B" iZ) (z7 : Z.heap.size ≤ a1) (z8 : Arv Z h0 a3 z0 .byte 16 [(.int 60), (.int x1), (.int 62), (.int x2), (.int x3), (.int x4), (.int x5), (.int x6), (.int 62), iZ, iZ, iZ, iZ, iZ, iZ, iZ] iZ) (z9 : Fld Z h0 a1 s0 "value" "[B" .null) :
    CtrN l Z mn25 jdk_42_method_150_code 5 none [] (⟨3, 1, 9, 58⟩ : Room) #[(.ref a1), (.ref a2), .null] h0 [a1] (fun v h => ∃ r1 : Addr, ∃ r2 : ClassId, h0.size ≤ r1 ∧ Fld Z h a1 s0 "coder" "B" iZ ∧ Fld Z h a1 s0 "value" "[B" (.ref r1) ∧ Arv Z h r1 r2 .byte 9 [(.int 60), (.int x1), (.int 62), (.int x2), (.int x3), (.int x4), (.int x5), (.int x6), (.int 62)] iZ ∧ v = none) := by
  refine CtrN.intro (L0 := #[vr a1, vr a2, .val .null, un, un]) (plainFor_of_name pn0) O0 (own_entry rfl) ?_
  intro p e s m below meth c T0 hy hml hret hlk hnm W0
  refine o_aloadN W0 1 (hb hy d26_0) rfl rfl rfl ?_
  refine o_initO W0 (w11 hw) (w12 hw) (w13 hw) (by rw [hml]; rfl) 4 (hb hy d26_1) rfl (by decide) 0 (by exact Nat.le_of_eq rfl) (by decide) ?_
  intro T1 W1
  refine o_aloadN W1 5 (hb hy d26_4) rfl rfl rfl ?_
  refine o_virtualC W1 (w149 hw) (w150 hw) (o_nf W1 rfl (w152 hw)) (w152 hw) (w151 hw) (by decide) z1 (w153 hw) (w51 hw) (rm26 l hw a2 a3 h0 W1.old z2) 0 0 0 (by decide) (by rw [hml]; rfl) (lenOf pd16 rfl) [] rfl rfl 8 (hb hy d26_5) rfl rfl rfl all0 tri ?_
  intro v2 T2 h2 lo2 W2 K2 q2
  obtain rfl := q2.2.2
  show Gl _ _ _ _ _ _ _ _ [(.ref a3)]
  refine o_astoreN W2 (L' := #[vr a1, vr a2, .val .null, vr a3, un]) 9 (hb hy d26_8) rfl rfl rfl <| o_aloadN W2 10 (hb hy d26_9) rfl rfl rfl ?_
  have c3 := (z3.keep K2 nin0)
  have c4 := (z1.keep K2)
  refine o_virtualC W2 (w154 hw) (w155 hw) (o_nf2 W2 (y2 := mn7) rfl (w90 hw) (w92 hw)) (w157 hw) (w158 hw) (by decide) c4 (w159 hw) (w43 hw) (rm194 l hw a2 h2 W2.old c3 c4) 0 0 0 (by decide) (by rw [hml]; rfl) (lenOf pd5 rfl) [] rfl rfl 13 (hb hy d26_10) rfl rfl rfl all0 tri ?_
  intro v5 T5 h5 lo5 W5 K5 q5
  obtain rfl := q5.2.2
  show Gl _ _ _ _ _ _ _ _ [(.int 9)]
  refine o_istore W5 (L' := #[vr a1, vr a2, .val .null, vr a3, vi 9]) 15 (hb hy d26_13) rfl rfl <| o_aloadN W5 16 (hb hy d26_15) rfl rfl rfl ?_
  have c6 := ((z4.keep K2 nin0).keep K5 nin0)
  have c7 := (c4.keep K5)
  refine o_virtualC W5 (w162 hw) (w124 hw) (o_nf W5 rfl (w126 hw)) (w126 hw) (w125 hw) (by decide) c7 (w127 hw) (w51 hw) (rm21 l hw gCS a2 h5 W5.old SgCS NgCS c6) 0 0 0 (by decide) (by rw [hml]; rfl) (lenOf pd11 rfl) [] rfl rfl 19 (hb hy d26_16) rfl rfl rfl all0 tri ?_
  intro v8 T8 h8 lo8 W8 K8 q8
  obtain rfl := q8.2.2
  show Gl _ _ _ _ _ _ _ _ [(.int 1)]
  refine o_ifN W8 22 (hb hy d26_19) (XT.i0_eq_f (by decide)) rfl <| o_aloadN W8 23 (hb hy d26_22) rfl rfl rfl <| o_iconst W8 (v := 0) 24 (hb hy d26_23) rfl rfl ?_
  have c9 := (((z5.keep K2).keep K5).keep K8)
  have c10 := (((z6.keep K2 nin0).keep K5 nin0).keep K8 nin0)
  refine o_putF W8 (w21 hw) Via.refl c10 c9 (Or.inr ⟨(w17 hw), rfl, hnm⟩) (w2 hw) (ty := .byte) (v' := iZ) (by decide) rfl (by decide) z7 m0 tri 27 (hb hy d26_24) rfl ?_
  intro T11 h11 lo11 W11 R11
  have F11 := c10.same R11
  refine o_aloadN W11 28 (hb hy d26_27) rfl rfl rfl <| o_aloadN W11 29 (hb hy d26_28) rfl rfl rfl <| o_iconst W11 (v := 0) 30 (hb hy d26_29) rfl rfl <| o_iload W11 32 (hb hy d26_30) rfl rfl ?_
  have c12 := (c9.wr R11)
  have c13 := (((z8.keep K2 nin0).keep K5 nin0).keep K8 nin0)
  have c14 := ((((z8.keep K2 nin0).keep K5 nin0).keep K8 nin0).other R11 (Ne.symm (Exa.neArv c9 c13 (w2 hw))))
  refine o_staticC W11 (w163 hw) (w164 hw) (w165 hw) (w166 hw) (by decide) (rm198 l hw a3 z0 x1 x2 x3 x4 x5 x6 h11 W11.old c14) 1 1 9 (by decide) (by rw [hml]; rfl) (lenOf pd19 rfl) [(.ref a1)] rfl rfl 35 (hb hy d26_32) rfl rfl rfl all0 tri ?_
  intro v15 T15 h15 lo15 W15 K15 q15
  obtain ⟨r1_15, r2_15, P15_0, P15_1, rfl⟩ := q15.2.2
  show Gl _ _ _ _ _ _ _ _ [(.ref r1_15), (.ref a1)]
  have c16 := (c12.keep K15)
  have c17 := (((((z9.keep K2 nin0).keep K5 nin0).keep K8 nin0).other R11 (Or.inr (slot_ne (Or.inr (w16 hw)) (Or.inr (w17 hw)) (by decide) (t := (.array .byte)) (t' := .byte) (by decide) (by decide)))).keep K15 nin0)
  refine o_putF W15 (w20 hw) Via.refl c17 c16 (Or.inr ⟨(w16 hw), rfl, hnm⟩) (w2 hw) (ty := (.array .byte)) (v' := (.ref r1_15)) (by decide) rfl rfl z7 m0 tri 38 (hb hy d26_35) rfl ?_
  intro T18 h18 lo18 W18 R18
  have F18 := c17.same R18
  refine o_goto W18 97 (hb hy d26_38) (by decide) rfl ?_
  have c19 := ((F11.keep K15 nin0).other R18 (Or.inr (slot_ne (Or.inr (w17 hw)) (Or.inr (w16 hw)) (by decide) (t := .byte) (t' := (.array .byte)) (by decide) (by decide))))
  have c20 := (c16.wr R18)
  have c21 := (P15_1.other R18 (own_ne' c12.lt P15_0))
  exact o_ret0 W18 hlk hret (hb hy d26_97) (by decide) (by decide) ⟨r1_15, r2_15, (Nat.le_trans W11.keep.1 P15_0), c19, F18, c21, rfl⟩
theorem rm200 (l : Launch) {Z a0} (hw : HW Z a0) (gCS : Int32) (a1 a2 a3 : Addr) (z0 : ClassId) (x1 x2 x3 x4 x5 x6 : Int32) (h0 : Heap) (O0 : Old Z Z.heap.size h0) (z1 : Exa Z h0 a2 s2) (z2 : Fld Z h0 a2 s1 "value" "[B" (.ref a3)) (z3 : Fld Z h0 a2 s1 "count" "I" (.int 9)) (SgCS : Sta Z Z.heap s0 s3 "Z" (.int gCS)) (NgCS : ¬ (gCS = (0 : Int32))) (z4 : Fld Z h0 a2 s1 "coder" "B" iZ) (z5 : Exa Z h0 a1 s0) (z6 : Fld Z h0 a1 s0 "coder" "B" iZ) (z7 : Arv Z h0 a3 z0 .byte 16 [(.int 60), (.int x1), (.int 62), (.int x2), (.int x3), (.int x4), (.int x5), (.int x6), (.int 62), iZ, iZ, iZ, iZ, iZ, iZ, iZ] iZ) (z8 : Fld Z h0 a1 s0 "value" "[B" .null) (z9 : Z.heap.size ≤ a1) :
    CtrN l Z mn26 jdk_42_method_53_code 2 none [] (⟨4, 1, 9, 74⟩ : Room) #[(.ref a1), (.ref a2)] h0 [a1] (fun v h => ∃ r1 : Addr, ∃ r2 : ClassId, h0.size ≤ r1 ∧ Fld Z h a1 s0 "coder" "B" iZ ∧ Fld Z h a1 s0 "value" "[B" (.ref r1) ∧ Arv Z h r1 r2 .byte 9 [(.int 60), (.int x1), (.int 62), (.int x2), (.int x3), (.int x4), (.int x5), (.int x6), (.int 62)] iZ ∧ v = none) := by
  refine CtrN.intro (L0 := #[vr a1, vr a2]) (plainFor_of_name pn0) O0 (own_entry rfl) ?_
  intro p e s m below meth c T0 hy hml hret hlk hnm W0
  refine o_aloadN W0 1 (hb hy d25_0) rfl rfl rfl <| o_aloadN W0 2 (hb hy d25_1) rfl rfl rfl ?_
  refine o_aconstNull W0 3 (hb hy d25_2) rfl ?_
  refine o_specialC W0 rfl (w146 hw) (w147 hw) (w148 hw) (by decide) (w3 hw) (rm199 l hw gCS a1 a2 a3 z0 x1 x2 x3 x4 x5 x6 h0 W0.old z1 z2 z3 SgCS NgCS z4 z5 z6 z9 z7 z8) 0 1 9 (by decide) (by rw [hml]; rfl) (lenOf pd20 rfl) [] rfl rfl 6 (hb hy d25_3) rfl rfl rfl (allS ⟨z9, m0⟩ all0) tri ?_
  intro v1 T1 h1 lo1 W1 K1 q1
  obtain ⟨r1_1, r2_1, P1_0, P1_1, P1_2, P1_3, rfl⟩ := q1.2.2
  show Gl _ _ _ _ _ _ _ _ []
  have c2 := (z5.keep K1)
  exact o_ret0 W1 hlk hret (hb hy d25_6) (by decide) (by decide) ⟨r1_1, r2_1, (Nat.le_trans W0.keep.1 P1_0), P1_1, P1_2, P1_3, rfl⟩
theorem rm201 (l : Launch) {Z a0} (hw : HW Z a0) (gCS : Int32) (a1 a2 : Addr) (z0 : ClassId) (x1 x2 x3 x4 x5 x6 : Int32) (h0 : Heap) (O0 : Old Z Z.heap.size h0) (z1 : Exa Z h0 a1 s2) (z2 : Fld Z h0 a1 s1 "value" "[B" (.ref a2)) (z3 : Fld Z h0 a1 s1 "count" "I" (.int 9)) (SgCS : Sta Z Z.heap s0 s3 "Z" (.int gCS)) (NgCS : ¬ (gCS = (0 : Int32))) (z4 : Fld Z h0 a1 s1 "coder" "B" iZ) (z5 : Arv Z h0 a2 z0 .byte 16 [(.int 60), (.int x1), (.int 62), (.int x2), (.int x3), (.int x4), (.int x5), (.int x6), (.int 62), iZ, iZ, iZ, iZ, iZ, iZ, iZ] iZ) :
    CtrN l Z mn27 jdk_67_method_42_code 1 (some (.object s0)) [] (⟨5, 2, 13, 88⟩ : Room) #[(.ref a1)] h0 [] (fun v h => ∃ r1 : Addr, ∃ r2 : Addr, ∃ r3 : ClassId, h0.size ≤ r1 ∧ h0.size ≤ r2 ∧ Exa Z h r1 s0 ∧ Fld Z h r1 s0 "value" "[B" (.ref r2) ∧ Fld Z h r1 s0 "coder" "B" iZ ∧ Arv Z h r2 r3 .byte 9 [(.int 60), (.int x1), (.int 62), (.int x2), (.int x3), (.int x4), (.int x5), (.int x6), (.int 62)] iZ ∧ v = some (.ref r1)) := by
  refine CtrN.intro (L0 := #[vr a1]) (plainFor_of_name pn2) O0 (own_entry rfl) ?_
  intro p e s m below meth c T0 hy hml hret hlk hnm W0
  refine o_new W0 (w142 hw) (w2 hw) (w3 hw) tri 3 (hb hy d24_0) rfl (cells' := 1) (slots' := 4) rfl rfl (by decide) (by decide) ?_
  intro b1 T1 h1 W1 E1 ge1 gz1 gb1 A1 D1
  have Fb1_value : Fld Z h1 b1 s0 "value" "[B" .null := D1 (Or.inr (w16 hw)) (ty := (.array .byte)) (by decide)
  have Fb1_coder : Fld Z h1 b1 s0 "coder" "B" iZ := D1 (Or.inr (w17 hw)) (ty := .byte) (by decide)
  refine o_dup W1 4 (hb hy d24_3) rfl rfl <| o_aloadN W1 5 (hb hy d24_4) rfl rfl rfl ?_
  have c2 := (z1.ext E1)
  have c3 := (z2.ext E1)
  have c4 := (z3.ext E1)
  have c5 := (z4.ext E1)
  have c6 := (z5.ext E1)
  refine o_specialC W1 rfl (w143 hw) (w144 hw) (w145 hw) (by decide) (w3 hw) (rm200 l hw gCS b1 a1 a2 z0 x1 x2 x3 x4 x5 x6 h1 W1.old c2 c3 c4 SgCS NgCS c5 A1 Fb1_coder c6 Fb1_value gz1) 1 2 13 (by decide) (by rw [hml]; rfl) (lenOf pd21 rfl) [(.ref b1)] rfl rfl 8 (hb hy d24_5) rfl rfl rfl (allS ⟨gz1, (Or.inr gb1)⟩ all0) tri ?_
  intro v7 T7 h7 lo7 W7 K7 q7
  obtain ⟨r1_7, r2_7, P7_0, P7_1, P7_2, P7_3, rfl⟩ := q7.2.2
  show Gl _ _ _ _ _ _ _ _ [(.ref b1)]
  have c8 := (A1.keep K7)
  exact o_retA W7 hlk (v := (.ref b1)) hret rfl rfl (hb hy d24_8) (by decide) (by decide) ⟨b1, r1_7, r2_7, gb1, (Nat.le_trans W1.keep.1 P7_0), c8, P7_2, P7_1, P7_3, rfl⟩
theorem rm202 (l : Launch) {Z a0} (hw : HW Z a0) (gCS : Int32) (a1 a2 a3 : Addr) (z0 : ClassId) (x1 x2 x3 x4 x5 x6 : Int32) (h0 : Heap) (O0 : Old Z Z.heap.size h0) (z1 : Fld Z h0 a1 s4 "out" s5 (.ref a2)) (z2 : Exa Z h0 a2 s2) (z3 : Fld Z h0 a2 s1 "value" "[B" (.ref a3)) (z4 : Fld Z h0 a2 s1 "count" "I" (.int 9)) (SgCS : Sta Z Z.heap s0 s3 "Z" (.int gCS)) (NgCS : ¬ (gCS = (0 : Int32))) (z5 : Fld Z h0 a2 s1 "coder" "B" iZ) (z6 : Arv Z h0 a3 z0 .byte 16 [(.int 60), (.int x1), (.int 62), (.int x2), (.int x3), (.int x4), (.int x5), (.int x6), (.int 62), iZ, iZ, iZ, iZ, iZ, iZ, iZ] iZ) :
    CtrN l Z mn28 prog_5_method_8_code 1 (some (.object s0)) [] (⟨6, 2, 13, 100⟩ : Room) #[(.ref a1)] h0 [] (fun v h => ∃ r1 : Addr, ∃ r2 : Addr, ∃ r3 : ClassId, h0.size ≤ r1 ∧ h0.size ≤ r2 ∧ Exa Z h r1 s0 ∧ Fld Z h r1 s0 "value" "[B" (.ref r2) ∧ Fld Z h r1 s0 "coder" "B" iZ ∧ Arv Z h r2 r3 .byte 9 [(.int 60), (.int x1), (.int 62), (.int x2), (.int x3), (.int x4), (.int x5), (.int x6), (.int 62)] iZ ∧ v = some (.ref r1)) := by
  refine CtrN.intro (L0 := #[vr a1]) (plainFor_of_name pn3) O0 (own_entry rfl) ?_
  intro p e s m below meth c T0 hy hml hret hlk hnm W0
  refine o_aloadN W0 1 (hb hy d23_0) rfl rfl rfl ?_
  refine o_getF W0 (w59 hw) Via.refl z1 4 (hb hy d23_1) rfl ?_
  intro T1 W1
  refine o_virtualC W1 (w137 hw) (w138 hw) (o_nf W1 rfl (w140 hw)) (w140 hw) (w139 hw) (by decide) z2 (w141 hw) (w43 hw) (rm201 l hw gCS a2 a3 z0 x1 x2 x3 x4 x5 x6 h0 W1.old z2 z3 z4 SgCS NgCS z5 z6) 0 2 13 (by decide) (by rw [hml]; rfl) (lenOf pd22 rfl) [] rfl rfl 7 (hb hy d23_4) rfl rfl rfl all0 tri ?_
  intro v2 T2 h2 lo2 W2 K2 q2
  obtain ⟨r1_2, r2_2, r3_2, P2_0, P2_1, P2_2, P2_3, P2_4, P2_5, rfl⟩ := q2.2.2
  show Gl _ _ _ _ _ _ _ _ [(.ref r1_2)]
  exact o_retA W2 hlk (v := (.ref r1_2)) hret rfl rfl (hb hy d23_7) (by decide) (by decide) ⟨r1_2, r2_2, r3_2, (Nat.le_trans W1.keep.1 P2_0), (Nat.le_trans W1.keep.1 P2_1), P2_2, P2_3, P2_4, P2_5, rfl⟩
theorem rm203 (l : Launch) {Z a0} (hw : HW Z a0) (a1 a2 : Addr) (z0 : ClassId) (x1 x2 x3 x4 : Int32) (z1 : ClassId) (x5 x6 x7 x8 x9 x10 : Int32) (h0 : Heap) (O0 : Old Z Z.heap.size h0) (z2 : Arv Z h0 a1 z0 .byte 9 [(.int (b8 60)), (.int (b8 x1)), (.int (b8 62)), (.int (b8 60)), (.int (b8 47)), (.int (b8 x2)), (.int (b8 x3)), (.int (b8 x4)), (.int (b8 62))] iZ) (z3 : Arv Z h0 a2 z1 .byte 9 [(.int 60), (.int x5), (.int 62), (.int x6), (.int x7), (.int x8), (.int x9), (.int x10), (.int 62)] iZ) (hc1 : (b8 x1) = x5) (hc2 : (b8 60) = x6) (hc3 : (b8 47) = x7) (hc4 : (b8 x2) = x8) (hc5 : (b8 x3) = x9) (hc6 : (b8 x4) = x10) :
    CtrN l Z mn29 jdk_43_method_13_code 3 (some .boolean) [] (⟨0, 0, 0, 0⟩ : Room) #[(.ref a1), (.ref a2)] h0 [] (fun v h => v = some (.int 1)) := by
  refine CtrN.intro (L0 := #[vr a1, vr a2, un]) (plainFor_of_name pn4) O0 (own_entry rfl) ?_
  intro p e s m below meth c T0 hy hml hret hlk hnm W0
  refine o_aloadN W0 1 (hb hy d35_0) rfl rfl rfl <| o_len W0 z2 2 (hb hy d35_1) rfl <| o_aloadN W0 3 (hb hy d35_2) rfl rfl rfl <| o_len W0 z3 4 (hb hy d35_3) rfl <| o_icmpN W0 7 (hb hy d35_4) (XT.ii_ne_f (by decide)) rfl <| o_iconst W0 (v := 0) 8 (hb hy d35_7) rfl rfl ?_
  refine o_istoreN W0 (L' := #[vr a1, vr a2, vi 0]) 9 (hb hy d35_8) rfl rfl <| o_iloadN W0 10 (hb hy d35_9) rfl rfl <| o_aloadN W0 11 (hb hy d35_10) rfl rfl rfl <| o_len W0 z2 12 (hb hy d35_11) rfl <| o_icmpN W0 15 (hb hy d35_12) (XT.ii_ge_f (by decide)) rfl <| o_aloadN W0 16 (hb hy d35_15) rfl rfl rfl ?_
  refine o_iloadN W0 17 (hb hy d35_16) rfl rfl <| o_baload W0 z2 (x := (b8 60)) (i := 0) (by decide) (by decide) (by decide) rfl 18 (hb hy d35_17) rfl <| o_aloadN W0 19 (hb hy d35_18) rfl rfl rfl <| o_iloadN W0 20 (hb hy d35_19) rfl rfl <| o_baload W0 z3 (x := (60 : Int32)) (i := 0) (by decide) (by decide) (by decide) rfl 21 (hb hy d35_20) rfl <| o_icmpY W0 26 (hb hy d35_21) (XT.ii_eq_t (by decide)) (by decide) rfl ?_
  refine o_iinc W0 (v := 1) (L' := #[vr a1, vr a2, vi 1]) 29 (hb hy d35_26) rfl (by decide) rfl rfl <| o_goto W0 9 (hb hy d35_29) (by decide) rfl <| o_iloadN W0 10 (hb hy d35_9) rfl rfl <| o_aloadN W0 11 (hb hy d35_10) rfl rfl rfl <| o_len W0 z2 12 (hb hy d35_11) rfl <| o_icmpN W0 15 (hb hy d35_12) (XT.ii_ge_f (by decide)) rfl ?_
  refine o_aloadN W0 16 (hb hy d35_15) rfl rfl rfl <| o_iloadN W0 17 (hb hy d35_16) rfl rfl <| o_baload W0 z2 (x := (b8 x1)) (i := 1) (by decide) (by decide) (by decide) rfl 18 (hb hy d35_17) rfl <| o_aloadN W0 19 (hb hy d35_18) rfl rfl rfl <| o_iloadN W0 20 (hb hy d35_19) rfl rfl <| o_baload W0 z3 (x := x5) (i := 1) (by decide) (by decide) (by decide) rfl 21 (hb hy d35_20) rfl ?_
  refine o_icmpY W0 26 (hb hy d35_21) (XT.ii_eq_t hc1) (by decide) rfl <| o_iinc W0 (v := 2) (L' := #[vr a1, vr a2, vi 2]) 29 (hb hy d35_26) rfl (by decide) rfl rfl <| o_goto W0 9 (hb hy d35_29) (by decide) rfl <| o_iloadN W0 10 (hb hy d35_9) rfl rfl <| o_aloadN W0 11 (hb hy d35_10) rfl rfl rfl <| o_len W0 z2 12 (hb hy d35_11) rfl ?_
  refine o_icmpN W0 15 (hb hy d35_12) (XT.ii_ge_f (by decide)) rfl <| o_aloadN W0 16 (hb hy d35_15) rfl rfl rfl <| o_iloadN W0 17 (hb hy d35_16) rfl rfl <| o_baload W0 z2 (x := (b8 62)) (i := 2) (by decide) (by decide) (by decide) rfl 18 (hb hy d35_17) rfl <| o_aloadN W0 19 (hb hy d35_18) rfl rfl rfl <| o_iloadN W0 20 (hb hy d35_19) rfl rfl ?_
  refine o_baload W0 z3 (x := (62 : Int32)) (i := 2) (by decide) (by decide) (by decide) rfl 21 (hb hy d35_20) rfl <| o_icmpY W0 26 (hb hy d35_21) (XT.ii_eq_t (by decide)) (by decide) rfl <| o_iinc W0 (v := 3) (L' := #[vr a1, vr a2, vi 3]) 29 (hb hy d35_26) rfl (by decide) rfl rfl <| o_goto W0 9 (hb hy d35_29) (by decide) rfl <| o_iloadN W0 10 (hb hy d35_9) rfl rfl <| o_aloadN W0 11 (hb hy d35_10) rfl rfl rfl ?_
  refine o_len W0 z2 12 (hb hy d35_11) rfl <| o_icmpN W0 15 (hb hy d35_12) (XT.ii_ge_f (by decide)) rfl <| o_aloadN W0 16 (hb hy d35_15) rfl rfl rfl <| o_iloadN W0 17 (hb hy d35_16) rfl rfl <| o_baload W0 z2 (x := (b8 60)) (i := 3) (by decide) (by decide) (by decide) rfl 18 (hb hy d35_17) rfl <| o_aloadN W0 19 (hb hy d35_18) rfl rfl rfl ?_
  refine o_iloadN W0 20 (hb hy d35_19) rfl rfl <| o_baload W0 z3 (x := x6) (i := 3) (by decide) (by decide) (by decide) rfl 21 (hb hy d35_20) rfl <| o_icmpY W0 26 (hb hy d35_21) (XT.ii_eq_t hc2) (by decide) rfl <| o_iinc W0 (v := 4) (L' := #[vr a1, vr a2, vi 4]) 29 (hb hy d35_26) rfl (by decide) rfl rfl <| o_goto W0 9 (hb hy d35_29) (by decide) rfl <| o_iloadN W0 10 (hb hy d35_9) rfl rfl ?_
  refine o_aloadN W0 11 (hb hy d35_10) rfl rfl rfl <| o_len W0 z2 12 (hb hy d35_11) rfl <| o_icmpN W0 15 (hb hy d35_12) (XT.ii_ge_f (by decide)) rfl <| o_aloadN W0 16 (hb hy d35_15) rfl rfl rfl <| o_iloadN W0 17 (hb hy d35_16) rfl rfl <| o_baload W0 z2 (x := (b8 47)) (i := 4) (by decide) (by decide) (by decide) rfl 18 (hb hy d35_17) rfl ?_
  refine o_aloadN W0 19 (hb hy d35_18) rfl rfl rfl <| o_iloadN W0 20 (hb hy d35_19) rfl rfl <| o_baload W0 z3 (x := x7) (i := 4) (by decide) (by decide) (by decide) rfl 21 (hb hy d35_20) rfl <| o_icmpY W0 26 (hb hy d35_21) (XT.ii_eq_t hc3) (by decide) rfl <| o_iinc W0 (v := 5) (L' := #[vr a1, vr a2, vi 5]) 29 (hb hy d35_26) rfl (by decide) rfl rfl <| o_goto W0 9 (hb hy d35_29) (by decide) rfl ?_
  refine o_iloadN W0 10 (hb hy d35_9) rfl rfl <| o_aloadN W0 11 (hb hy d35_10) rfl rfl rfl <| o_len W0 z2 12 (hb hy d35_11) rfl <| o_icmpN W0 15 (hb hy d35_12) (XT.ii_ge_f (by decide)) rfl <| o_aloadN W0 16 (hb hy d35_15) rfl rfl rfl <| o_iloadN W0 17 (hb hy d35_16) rfl rfl ?_
  refine o_baload W0 z2 (x := (b8 x2)) (i := 5) (by decide) (by decide) (by decide) rfl 18 (hb hy d35_17) rfl <| o_aloadN W0 19 (hb hy d35_18) rfl rfl rfl <| o_iloadN W0 20 (hb hy d35_19) rfl rfl <| o_baload W0 z3 (x := x8) (i := 5) (by decide) (by decide) (by decide) rfl 21 (hb hy d35_20) rfl <| o_icmpY W0 26 (hb hy d35_21) (XT.ii_eq_t hc4) (by decide) rfl <| o_iinc W0 (v := 6) (L' := #[vr a1, vr a2, vi 6]) 29 (hb hy d35_26) rfl (by decide) rfl rfl ?_
  refine o_goto W0 9 (hb hy d35_29) (by decide) rfl <| o_iloadN W0 10 (hb hy d35_9) rfl rfl <| o_aloadN W0 11 (hb hy d35_10) rfl rfl rfl <| o_len W0 z2 12 (hb hy d35_11) rfl <| o_icmpN W0 15 (hb hy d35_12) (XT.ii_ge_f (by decide)) rfl <| o_aloadN W0 16 (hb hy d35_15) rfl rfl rfl ?_
  refine o_iloadN W0 17 (hb hy d35_16) rfl rfl <| o_baload W0 z2 (x := (b8 x3)) (i := 6) (by decide) (by decide) (by decide) rfl 18 (hb hy d35_17) rfl <| o_aloadN W0 19 (hb hy d35_18) rfl rfl rfl <| o_iloadN W0 20 (hb hy d35_19) rfl rfl <| o_baload W0 z3 (x := x9) (i := 6) (by decide) (by decide) (by decide) rfl 21 (hb hy d35_20) rfl <| o_icmpY W0 26 (hb hy d35_21) (XT.ii_eq_t hc5) (by decide) rfl ?_
  refine o_iinc W0 (v := 7) (L' := #[vr a1, vr a2, vi 7]) 29 (hb hy d35_26) rfl (by decide) rfl rfl <| o_goto W0 9 (hb hy d35_29) (by decide) rfl <| o_iloadN W0 10 (hb hy d35_9) rfl rfl <| o_aloadN W0 11 (hb hy d35_10) rfl rfl rfl <| o_len W0 z2 12 (hb hy d35_11) rfl <| o_icmpN W0 15 (hb hy d35_12) (XT.ii_ge_f (by decide)) rfl ?_
  refine o_aloadN W0 16 (hb hy d35_15) rfl rfl rfl <| o_iloadN W0 17 (hb hy d35_16) rfl rfl <| o_baload W0 z2 (x := (b8 x4)) (i := 7) (by decide) (by decide) (by decide) rfl 18 (hb hy d35_17) rfl <| o_aloadN W0 19 (hb hy d35_18) rfl rfl rfl <| o_iloadN W0 20 (hb hy d35_19) rfl rfl <| o_baload W0 z3 (x := x10) (i := 7) (by decide) (by decide) (by decide) rfl 21 (hb hy d35_20) rfl ?_
  refine o_icmpY W0 26 (hb hy d35_21) (XT.ii_eq_t hc6) (by decide) rfl <| o_iinc W0 (v := 8) (L' := #[vr a1, vr a2, vi 8]) 29 (hb hy d35_26) rfl (by decide) rfl rfl <| o_goto W0 9 (hb hy d35_29) (by decide) rfl <| o_iloadN W0 10 (hb hy d35_9) rfl rfl <| o_aloadN W0 11 (hb hy d35_10) rfl rfl rfl <| o_len W0 z2 12 (hb hy d35_11) rfl ?_
  refine o_icmpN W0 15 (hb hy d35_12) (XT.ii_ge_f (by decide)) rfl <| o_aloadN W0 16 (hb hy d35_15) rfl rfl rfl <| o_iloadN W0 17 (hb hy d35_16) rfl rfl <| o_baload W0 z2 (x := (b8 62)) (i := 8) (by decide) (by decide) (by decide) rfl 18 (hb hy d35_17) rfl <| o_aloadN W0 19 (hb hy d35_18) rfl rfl rfl <| o_iloadN W0 20 (hb hy d35_19) rfl rfl ?_
  refine o_baload W0 z3 (x := (62 : Int32)) (i := 8) (by decide) (by decide) (by decide) rfl 21 (hb hy d35_20) rfl <| o_icmpY W0 26 (hb hy d35_21) (XT.ii_eq_t (by decide)) (by decide) rfl <| o_iinc W0 (v := 9) (L' := #[vr a1, vr a2, vi 9]) 29 (hb hy d35_26) rfl (by decide) rfl rfl <| o_goto W0 9 (hb hy d35_29) (by decide) rfl <| o_iloadN W0 10 (hb hy d35_9) rfl rfl <| o_aloadN W0 11 (hb hy d35_10) rfl rfl rfl ?_
  refine o_len W0 z2 12 (hb hy d35_11) rfl <| o_icmpY W0 32 (hb hy d35_12) (XT.ii_ge_t (by decide)) (by decide) rfl <| o_iconst W0 (v := 1) 33 (hb hy d35_32) rfl rfl ?_
  exact o_retN W0 hlk (t := .boolean) hret (by simp) (z' := (1 : Int32)) (by decide) (hb hy d35_33) (by decide) (by decide) rfl
theorem rm204 (l : Launch) {Z a0} (hw : HW Z a0) (gCS : Int32) (a1 a2 a3 a4 : Addr) (z0 : ClassId) (x1 x2 x3 x4 : Int32) (z1 : ClassId) (x5 x6 x7 x8 x9 x10 : Int32) (h0 : Heap) (O0 : Old Z Z.heap.size h0) (z2 : Exa Z h0 a1 s0) (z3 : Exa Z h0 a2 s0) (z4 : a1 ≠ a2) (SgCS : Sta Z Z.heap s0 s3 "Z" (.int gCS)) (NgCS : ¬ (gCS = (0 : Int32))) (z5 : Fld Z h0 a1 s0 "coder" "B" iZ) (z6 : Fld Z h0 a2 s0 "coder" "B" iZ) (z7 : Fld Z h0 a1 s0 "value" "[B" (.ref a3)) (z8 : Fld Z h0 a2 s0 "value" "[B" (.ref a4)) (z9 : Arv Z h0 a3 z0 .byte 9 [(.int (b8 60)), (.int (b8 x1)), (.int (b8 62)), (.int (b8 60)), (.int (b8 47)), (.int (b8 x2)), (.int (b8 x3)), (.int (b8 x4)), (.int (b8 62))] iZ) (z10 : Arv Z h0 a4 z1 .byte 9 [(.int 60), (.int x5), (.int 62), (.int x6), (.int x7), (.int x8), (.int x9), (.int x10), (.int 62)] iZ) (hc8 : (b8 x1) = x5) (hc9 : (b8 60) = x6) (hc10 : (b8 47) = x7) (hc11 : (b8 x2) = x8) (hc12 : (b8 x3) = x9) (hc13 : (b8 x4) = x10) :
    CtrN l Z mn30 jdk_42_method_66_code 3 (some .boolean) [] (⟨1, 0, 0, 14⟩ : Room) #[(.ref a1), (.ref a2)] h0 [] (fun v h => v = some (.int 1)) := by
  refine CtrN.intro (L0 := #[vr a1, vr a2, un]) (plainFor_of_name pn0) O0 (own_entry rfl) ?_
  intro p e s m below meth c T0 hy hml hret hlk hnm W0
  refine o_aloadN W0 1 (hb hy d34_0) rfl rfl rfl <| o_aloadN W0 2 (hb hy d34_1) rfl rfl rfl ?_
  refine o_acmpY W0 7 (hb hy d34_2) rfl rfl (XT.aa_ne_t (fun q => z4 (Value.ref.inj q))) (by decide) rfl ?_
  refine o_aloadN W0 8 (hb hy d34_7) rfl rfl rfl ?_
  refine o_instY W0 (w183 hw) (Ins.self z3) 11 (hb hy d34_8) rfl ?_
  intro T1 W1
  refine o_ifN W1 14 (hb hy d34_11) (XT.i0_eq_f (by decide)) rfl <| o_aloadN W1 15 (hb hy d34_14) rfl rfl rfl ?_
  refine o_cast W1 (w183 hw) (Ins.self z3) 18 (hb hy d34_15) rfl ?_
  intro T2 W2
  refine o_astoreN W2 (L' := #[vr a1, vr a2, vr a2]) 19 (hb hy d34_18) rfl rfl rfl ?_
  refine o_getS W2 (w22 hw) Via.refl (SgCS.ext W2.ox) 22 (hb hy d34_19) rfl ?_
  intro T3 W3
  refine o_ifN W3 25 (hb hy d34_22) (XT.i0_eq_f NgCS) rfl <| o_aloadN W3 26 (hb hy d34_25) rfl rfl rfl ?_
  refine o_getF W3 (w21 hw) Via.refl z5 29 (hb hy d34_26) rfl ?_
  intro T4 W4
  refine o_aloadN W4 30 (hb hy d34_29) rfl rfl rfl ?_
  refine o_getF W4 (w21 hw) Via.refl z6 33 (hb hy d34_30) rfl ?_
  intro T5 W5
  refine o_icmpN W5 36 (hb hy d34_33) (XT.ii_ne_f (by decide)) rfl <| o_aloadN W5 37 (hb hy d34_36) rfl rfl rfl ?_
  refine o_getF W5 (w20 hw) Via.refl z7 40 (hb hy d34_37) rfl ?_
  intro T6 W6
  refine o_aloadN W6 41 (hb hy d34_40) rfl rfl rfl ?_
  refine o_getF W6 (w20 hw) Via.refl z8 44 (hb hy d34_41) rfl ?_
  intro T7 W7
  refine o_staticC W7 (w184 hw) (w185 hw) (w130 hw) (w186 hw) (by decide) (rm203 l hw a3 a4 z0 x1 x2 x3 x4 z1 x5 x6 x7 x8 x9 x10 h0 W7.old z9 z10 hc8 hc9 hc10 hc11 hc12 hc13) 0 0 0 (by decide) (by rw [hml]; rfl) (lenOf pd23 rfl) [] rfl rfl 47 (hb hy d34_44) rfl rfl rfl all0 tri ?_
  intro v14 T14 h14 lo14 W14 K14 q14
  obtain rfl := q14.2.2
  show Gl _ _ _ _ _ _ _ _ [(.int 1)]
  refine o_ifN W14 50 (hb hy d34_47) (XT.i0_eq_f (by decide)) rfl <| o_iconst W14 (v := 1) 51 (hb hy d34_50) rfl rfl <| o_goto W14 55 (hb hy d34_51) (by decide) rfl ?_
  exact o_retN W14 hlk (t := .boolean) hret (by simp) (z' := (1 : Int32)) (by decide) (hb hy d34_55) (by decide) (by decide) rfl
theorem rm_law (l : Launch) {Z a0} (hw : HW Z a0) (gCS p0 p1 p2 p3 p4 : Int32) (h0 : Heap) (O0 : Old Z Z.heap.size h0) (SgCS : Sta Z Z.heap s0 s3 "Z" (.int gCS)) (NgCS : ¬ (gCS = (0 : Int32))) :
    CtrW l Z consts_1 x code maxLocals ret tables_1 room_1 #[(.int p0), (.int p1), (.int p2), (.int p3), (.int p4)] h0 [] (fun v _ => v = some (.int 1)) := by
  refine CtrW.intro (L0 := #[vi p0, vi p1, vi p2, vi p3, vi p4, un, un, un, un, un, un, un, un, un, un, un, un, un, un]) (plainFor_of_name pn6) O0 (own_entry rfl) ?_
  intro p e s m below meth c T0 V0 hy hml hret hlk hnm W0
  refine o_iload W0 2 (hb hy at_0) rfl rfl <| o_iconst W0 (v := 3) 3 (hb hy at_2) rfl rfl <| o_iand W0 (v := (p4 &&& 3)) 4 (hb hy at_3) rfl rfl <| o_istore W0 (L' := #[vi p0, vi p1, vi p2, vi p3, vi p4, vi (p4 &&& 3), un, un, un, un, un, un, un, un, un, un, un, un, un]) 6 (hb hy at_4) rfl rfl <| o_iload W0 8 (hb hy at_6) rfl rfl <| o_iconst W0 (v := 2) 9 (hb hy at_8) rfl rfl ?_
  refine o_ishr W0 (v := (p4 >>> ((2 : Int32) &&& 31))) 10 (hb hy at_9) rfl rfl <| o_iconst W0 (v := 1) 11 (hb hy at_10) rfl rfl <| o_iand W0 (v := ((p4 >>> ((2 : Int32) &&& 31)) &&& 1)) 12 (hb hy at_11) rfl rfl ?_
  by_cases hf0 : ((p4 >>> ((2 : Int32) &&& 31)) &&& 1) = (0 : Int32)
  · refine o_ifY W0 19 (hb hy at_12) (XT.i0_eq_t hf0) (by decide) rfl <| o_iconst W0 (v := 0) 20 (hb hy at_19) rfl rfl <| o_istore W0 (L' := #[vi p0, vi p1, vi p2, vi p3, vi p4, vi (p4 &&& 3), vi 0, un, un, un, un, un, un, un, un, un, un, un, un]) 22 (hb hy at_20) rfl rfl <| o_iloadN W0 23 (hb hy at_22) rfl rfl <| o_sipush W0 (v := 255) 26 (hb hy at_23) (by decide) rfl <| o_iand W0 (v := (p0 &&& 255)) 27 (hb hy at_26) rfl rfl ?_
    refine o_i2c W0 (v := (p0 &&& 255)) 28 (hb hy at_27) (own_i2c (own_b255 _)) rfl <| o_istore W0 (L' := #[vi p0, vi p1, vi p2, vi p3, vi p4, vi (p4 &&& 3), vi 0, vi (p0 &&& 255), un, un, un, un, un, un, un, un, un, un, un]) 30 (hb hy at_28) rfl rfl <| o_iloadN W0 31 (hb hy at_30) rfl rfl <| o_sipush W0 (v := 255) 34 (hb hy at_31) (by decide) rfl <| o_iand W0 (v := (p1 &&& 255)) 35 (hb hy at_34) rfl rfl <| o_i2c W0 (v := (p1 &&& 255)) 36 (hb hy at_35) (own_i2c (own_b255 _)) rfl ?_
    refine o_istore W0 (L' := #[vi p0, vi p1, vi p2, vi p3, vi p4, vi (p4 &&& 3), vi 0, vi (p0 &&& 255), vi (p1 &&& 255), un, un, un, un, un, un, un, un, un, un]) 38 (hb hy at_36) rfl rfl <| o_iloadN W0 39 (hb hy at_38) rfl rfl <| o_sipush W0 (v := 255) 42 (hb hy at_39) (by decide) rfl <| o_iand W0 (v := (p2 &&& 255)) 43 (hb hy at_42) rfl rfl <| o_i2c W0 (v := (p2 &&& 255)) 44 (hb hy at_43) (own_i2c (own_b255 _)) rfl <| o_istore W0 (L' := #[vi p0, vi p1, vi p2, vi p3, vi p4, vi (p4 &&& 3), vi 0, vi (p0 &&& 255), vi (p1 &&& 255), vi (p2 &&& 255), un, un, un, un, un, un, un, un, un]) 46 (hb hy at_44) rfl rfl ?_
    refine o_iloadN W0 47 (hb hy at_46) rfl rfl <| o_sipush W0 (v := 255) 50 (hb hy at_47) (by decide) rfl <| o_iand W0 (v := (p3 &&& 255)) 51 (hb hy at_50) rfl rfl <| o_i2c W0 (v := (p3 &&& 255)) 52 (hb hy at_51) (own_i2c (own_b255 _)) rfl <| o_istore W0 (L' := #[vi p0, vi p1, vi p2, vi p3, vi p4, vi (p4 &&& 3), vi 0, vi (p0 &&& 255), vi (p1 &&& 255), vi (p2 &&& 255), vi (p3 &&& 255), un, un, un, un, un, un, un, un]) 54 (hb hy at_52) rfl rfl ?_
    rcases own_and3 p4 with ek1 | ek1 | ek1 | ek1
    · rw [ek1]
      refine o_iload W0 56 (hb hy at_54) rfl rfl ?_
      refine o_newP W0 (aty := .char) (w0 hw) (fun _ E => IW.ext E W0.inv) (by decide) (cap := 0) (by decide) (by decide) 58 (hb hy at_56) rfl (cells' := 1) (slots' := 0) rfl rfl (by decide) (by decide) (vs := []) (dv := iZ) rfl rfl ?_
      intro b2 T2 h2 k2 W2 E2 ge2 gz2 gb2 V2
      refine o_astore W2 (L' := #[vi p0, vi p1, vi p2, vi p3, vi p4, vi 0, vi 0, vi (p0 &&& 255), vi (p1 &&& 255), vi (p2 &&& 255), vi (p3 &&& 255), vr b2, un, un, un, un, un, un, un]) 60 (hb hy at_58) rfl rfl rfl <| o_iload W2 62 (hb hy at_60) rfl rfl <| o_ifY W2 71 (hb hy at_62) (XT.i0_le_t (by decide)) (by decide) rfl <| o_iload W2 73 (hb hy at_71) rfl rfl <| o_iconst W2 (v := 1) 74 (hb hy at_73) rfl rfl <| o_icmpY W2 83 (hb hy at_74) (XT.ii_le_t (by decide)) (by decide) rfl ?_
      refine o_iload W2 85 (hb hy at_83) rfl rfl <| o_iconst W2 (v := 2) 86 (hb hy at_85) rfl rfl <| o_icmpY W2 95 (hb hy at_86) (XT.ii_le_t (by decide)) (by decide) rfl ?_
      refine o_new W2 (w1 hw) (w2 hw) (w3 hw) (fun _ E => IW.ext E W2.inv) 98 (hb hy at_95) rfl (cells' := 2) (slots' := 4) rfl rfl (by decide) (by decide) ?_
      intro b3 T3 h3 W3 E3 ge3 gz3 gb3 A3 D3
      have Fb3_value : Fld Z h3 b3 s0 "value" "[B" .null := D3 (Or.inr (w16 hw)) (ty := (.array .byte)) (by decide)
      have Fb3_coder : Fld Z h3 b3 s0 "coder" "B" iZ := D3 (Or.inr (w17 hw)) (ty := .byte) (by decide)
      refine o_dup W3 99 (hb hy at_98) rfl rfl <| o_aload W3 101 (hb hy at_99) rfl rfl rfl ?_
      have c4 := (V2.ext E3)
      refine o_specialW W3 (y := mn1) rfl (w4 hw) (w5 hw) (w6 hw) (by decide) (a := b3) (argsL := [(.ref b2)]) (CtrW.back (Wd := 1) W3 (rm2 l hw b3 b2 k2 h3 W3.old c4 A3 Fb3_value Fb3_coder gz3) (w6 hw) (w3 hw) (by decide) (by decide) (own_EL hw)) (by rw [hml]; rfl) (lenOf pd1 rfl) (S := [(.ref b3)]) rfl (by exact Nat.le_of_eq rfl) 104 (hb hy at_101) rfl (cells' := 6) (slots' := 12) rfl rfl (by decide) (by decide) (wy := [b3]) qf (allS ⟨gz3, (Or.inr gb3)⟩ all0)  ?_
      intro v5 T5 h5 V5 lo5 W5 K5 C5 q5
      obtain ⟨r1_5, r2_5, P5_0, P5_1, P5_2, rfl⟩ := q5.2.2
      show Gl _ _ _ _ _ _ _ _ [(.ref b3)]
      refine o_astore W5 (L' := #[vi p0, vi p1, vi p2, vi p3, vi p4, vi 0, vi 0, vi (p0 &&& 255), vi (p1 &&& 255), vi (p2 &&& 255), vi (p3 &&& 255), vr b2, vr b3, un, un, un, un, un, un]) 106 (hb hy at_104) rfl rfl rfl <| o_iload W5 108 (hb hy at_106) rfl rfl <| o_ifY W5 115 (hb hy at_108) (XT.i0_eq_t (by decide)) (by decide) rfl <| o_iconst W5 (v := 0) 116 (hb hy at_115) rfl rfl <| o_istore W5 (L' := #[vi p0, vi p1, vi p2, vi p3, vi p4, vi 0, vi 0, vi (p0 &&& 255), vi (p1 &&& 255), vi (p2 &&& 255), vi (p3 &&& 255), vr b2, vr b3, vi 0, un, un, un, un, un]) 118 (hb hy at_116) rfl rfl <| o_iload W5 120 (hb hy at_118) rfl rfl ?_
      refine o_iload W5 122 (hb hy at_120) rfl rfl <| o_iadd W5 (v := 0) 123 (hb hy at_122) (by decide) rfl <| o_iconst W5 (v := 3) 124 (hb hy at_123) rfl rfl <| o_iadd W5 (v := 3) 125 (hb hy at_124) (by decide) rfl ?_
      refine o_newP W5 (aty := .char) (w0 hw) (fun _ E => IW.ext E W5.inv) (by decide) (cap := 3) (by decide) (by decide) 127 (hb hy at_125) rfl (cells' := 7) (slots' := 15) rfl rfl (by decide) (by decide) (vs := [iZ, iZ, iZ]) (dv := iZ) rfl rfl ?_
      intro b6 T6 h6 k6 W6 E6 ge6 gz6 gb6 V6
      refine o_astore W6 (L' := #[vi p0, vi p1, vi p2, vi p3, vi p4, vi 0, vi 0, vi (p0 &&& 255), vi (p1 &&& 255), vi (p2 &&& 255), vi (p3 &&& 255), vr b2, vr b3, vi 0, vr b6, un, un, un, un]) 129 (hb hy at_127) rfl rfl rfl <| o_iload W6 131 (hb hy at_129) rfl rfl <| o_ifY W6 152 (hb hy at_131) (XT.i0_eq_t (by decide)) (by decide) rfl <| o_aload W6 154 (hb hy at_152) rfl rfl rfl <| o_iload W6 156 (hb hy at_154) rfl rfl <| o_bipush W6 (v := 60) 158 (hb hy at_156) (by decide) rfl ?_
      refine o_stC W6 V6 (i := 0) (x' := (60 : Int32)) (by decide) (by decide) (by decide) (Nat.lt_of_sub_eq_succ rfl) (by decide) (vs' := [(.int 60), iZ, iZ]) rfl gz6 (Or.inr gb6) (fun _ R => IW.wr R (Safe.arv W6.al V6 (by decide)) W6.inv) 159 (hb hy at_158) rfl ?_
      intro T7 h7 lo7 W7 R7 V7
      refine o_aload W7 161 (hb hy at_159) rfl rfl rfl <| o_iload W7 163 (hb hy at_161) rfl rfl <| o_iconst W7 (v := 1) 164 (hb hy at_163) rfl rfl <| o_iadd W7 (v := 1) 165 (hb hy at_164) (by decide) rfl <| o_bipush W7 (v := 47) 167 (hb hy at_165) (by decide) rfl ?_
      refine o_stC W7 V7 (i := 1) (x' := (47 : Int32)) (by decide) (by decide) (by decide) (Nat.lt_of_sub_eq_succ rfl) (by decide) (vs' := [(.int 60), (.int 47), iZ]) rfl gz6 (Or.inr gb6) (fun _ R => IW.wr R (Safe.arv W7.al V7 (by decide)) W7.inv) 168 (hb hy at_167) rfl ?_
      intro T8 h8 lo8 W8 R8 V8
      refine o_iload W8 170 (hb hy at_168) rfl rfl <| o_ifY W8 182 (hb hy at_170) (XT.i0_le_t (by decide)) (by decide) rfl <| o_iload W8 184 (hb hy at_182) rfl rfl <| o_iconst W8 (v := 1) 185 (hb hy at_184) rfl rfl <| o_icmpY W8 197 (hb hy at_185) (XT.ii_le_t (by decide)) (by decide) rfl <| o_iload W8 199 (hb hy at_197) rfl rfl ?_
      refine o_iconst W8 (v := 2) 200 (hb hy at_199) rfl rfl <| o_icmpY W8 212 (hb hy at_200) (XT.ii_le_t (by decide)) (by decide) rfl <| o_aload W8 214 (hb hy at_212) rfl rfl rfl <| o_iload W8 216 (hb hy at_214) rfl rfl <| o_iconst W8 (v := 2) 217 (hb hy at_216) rfl rfl <| o_iadd W8 (v := 2) 218 (hb hy at_217) (by decide) rfl ?_
      refine o_iload W8 220 (hb hy at_218) rfl rfl <| o_iadd W8 (v := 2) 221 (hb hy at_220) (by decide) rfl <| o_bipush W8 (v := 62) 223 (hb hy at_221) (by decide) rfl ?_
      refine o_stC W8 V8 (i := 2) (x' := (62 : Int32)) (by decide) (by decide) (by decide) (Nat.lt_of_sub_eq_succ rfl) (by decide) (vs' := [(.int 60), (.int 47), (.int 62)]) rfl gz6 (Or.inr gb6) (fun _ R => IW.wr R (Safe.arv W8.al V8 (by decide)) W8.inv) 224 (hb hy at_223) rfl ?_
      intro T9 h9 lo9 W9 R9 V9
      refine o_new W9 (w1 hw) (w2 hw) (w3 hw) (fun _ E => IW.ext E W9.inv) 227 (hb hy at_224) rfl (cells' := 8) (slots' := 19) rfl rfl (by decide) (by decide) ?_
      intro b10 T10 h10 W10 E10 ge10 gz10 gb10 A10 D10
      have Fb10_value : Fld Z h10 b10 s0 "value" "[B" .null := D10 (Or.inr (w16 hw)) (ty := (.array .byte)) (by decide)
      have Fb10_coder : Fld Z h10 b10 s0 "coder" "B" iZ := D10 (Or.inr (w17 hw)) (ty := .byte) (by decide)
      refine o_dup W10 228 (hb hy at_227) rfl rfl <| o_aload W10 230 (hb hy at_228) rfl rfl rfl ?_
      have c11 := (V9.ext E10)
      have ok12 : own_ok [(60 : Int32), (47 : Int32), (62 : Int32)] := ⟨by simp only [List.mem_cons, List.not_mem_nil, or_false, forall_eq_or_imp, forall_eq, false_imp_iff, implies_true]; exact ⟨(by unfold own_b; decide), (by unfold own_b; decide), (by unfold own_b; decide)⟩, Nat.le_of_ble_eq_true rfl⟩
      have sf13 := own_safeS (EL := consts_1) W10.al A10 Fb10_value
      refine o_special W10 (y := mn1) rfl (w4 hw) (w5 hw) (w6 hw) (by decide) (a := b10) (argsL := [(.ref b6)]) (StrChars.Road.backV (W := 1) W10.2.2.2.1 (own_hV hw) (kI := 4) (w2 hw) (cs := [(60 : Int32), (47 : Int32), (62 : Int32)]) (bs := [((60 : Int32)).toInt8.toInt32, ((47 : Int32)).toInt8.toInt32, ((62 : Int32)).toInt8.toInt32]) (n := 3) (n0 := Z.heap.size) gz10 W10.zs A10 Fb10_value Fb10_coder c11 (SgCS.ext W10.ox) NgCS rfl rfl (by decide) (by decide) ok12.1 rfl (by decide) (by decide)) (by rw [hml]; rfl) (lenOf pd1 rfl) (S := [(.ref b10)]) rfl (by exact Nat.le_of_eq rfl) 233 (hb hy at_230) rfl (cells' := 9) (slots' := 22) rfl rfl (by decide) (by decide) (wy := [b10]) (fun _ _ _ q => ⟨q.2.1, q.2.2.1⟩) (allS ⟨gz10, (Or.inr gb10)⟩ all0) (fun _ K => IW.keep K (sfS sf13 sf0) W10.inv) ?_
      intro v14 T14 h14 lo14 W14 K14 q14
      obtain ⟨rfl, -, -, X14, Fc14, t14, kb14, gz14, ge14, -, Fv14, A14⟩ := q14
      have B14 : Arv Z h14 t14 kb14 .byte 3 [(.int (b8 60)), (.int (b8 47)), (.int (b8 62))] iZ := A14
      show Gl _ _ _ _ _ _ _ _ [(.ref b10)]
      refine o_astore W14 (L' := #[vi p0, vi p1, vi p2, vi p3, vi p4, vi 0, vi 0, vi (p0 &&& 255), vi (p1 &&& 255), vi (p2 &&& 255), vi (p3 &&& 255), vr b2, vr b3, vi 0, vr b6, vr b10, un, un, un]) 235 (hb hy at_233) rfl rfl rfl <| o_iconst W14 (v := 0) 236 (hb hy at_235) rfl rfl ?_
      refine o_newR W14 (w1 hw) (w33 hw) (fun _ E => IW.ext E W14.inv) (by decide) (cap := 0) (by decide) (by decide) 239 (hb hy at_236) rfl (cells' := 10) (slots' := 22) rfl rfl (by decide) (by decide) (vs := []) rfl ?_
      intro b15 T15 h15 k15 W15 E15 ge15 gz15 gb15 V15 O15
      refine o_astore W15 (L' := #[vi p0, vi p1, vi p2, vi p3, vi p4, vi 0, vi 0, vi (p0 &&& 255), vi (p1 &&& 255), vi (p2 &&& 255), vi (p3 &&& 255), vr b2, vr b3, vi 0, vr b6, vr b10, vr b15, un, un]) 241 (hb hy at_239) rfl rfl rfl ?_
      refine o_new W15 (w34 hw) (w35 hw) (w36 hw) (fun _ E => IW.ext E W15.inv) 244 (hb hy at_241) rfl (cells' := 11) (slots' := 23) rfl rfl (by decide) (by decide) ?_
      intro b16 T16 h16 W16 E16 ge16 gz16 gb16 A16 D16
      have Fb16_out : Fld Z h16 b16 s4 "out" s5 .null := D16 (Or.inr (w60 hw)) (ty := (.object s2)) (by decide)
      refine o_dup W16 245 (hb hy at_244) rfl rfl ?_
      refine o_specialC W16 rfl (w37 hw) (w38 hw) (w39 hw) (by decide) (w36 hw) (rm5 l hw gCS b16 h16 W16.old SgCS NgCS A16 Fb16_out gz16) 1 13 43 (by decide) (by rw [hml]; rfl) (lenOf pd3 rfl) [(.ref b16)] rfl rfl 248 (hb hy at_245) rfl rfl rfl (allS ⟨gz16, (Or.inr gb16)⟩ all0) (fun _ K => IW.keep K (sfS (Safe.exa W16.al A16 (by decide) (by decide)) sf0) W16.inv) ?_
      intro v17 T17 h17 lo17 W17 K17 q17
      obtain ⟨r1_17, r2_17, r3_17, P17_0, P17_1, P17_2, P17_3, P17_4, P17_5, P17_6, P17_7, rfl⟩ := q17.2.2
      show Gl _ _ _ _ _ _ _ _ [(.ref b16)]
      refine o_astore W17 (L' := #[vi p0, vi p1, vi p2, vi p3, vi p4, vi 0, vi 0, vi (p0 &&& 255), vi (p1 &&& 255), vi (p2 &&& 255), vi (p3 &&& 255), vr b2, vr b3, vi 0, vr b6, vr b10, vr b15, vr b16, un]) 250 (hb hy at_248) rfl rfl rfl <| o_iload W17 252 (hb hy at_250) rfl rfl <| o_ifY W17 268 (hb hy at_252) (XT.i0_eq_t (by decide)) (by decide) rfl <| o_aload W17 270 (hb hy at_268) rfl rfl rfl <| o_aload W17 272 (hb hy at_270) rfl rfl rfl ?_
      have c18 := (A3.keep K5)
      have c19 := ((((c18.ext E6).wr R7).wr R8).wr R9)
      have c20 := (((c19.ext E10).keep K14).ext E15)
      have c21 := (((((((((P5_0.ext E6).other R7 (Or.inl (own_ne c18.lt ge6))).other R8 (Or.inl (own_ne c18.lt ge6))).other R9 (Or.inl (own_ne c18.lt ge6))).ext E10).keep K14 (ninS (own_ne c19.lt ge10) nin0)).ext E15).ext E16).keep K17 (ninS (own_ne c20.lt ge16) nin0))
      have c22 := ((((P5_2.ext E6).other R7 (own_ne P5_2.lt ge6)).other R8 (own_ne P5_2.lt ge6)).other R9 (own_ne P5_2.lt ge6))
      have c23 := (((c22.ext E10).keep K14 (ninS (own_ne c22.lt ge10) nin0)).ext E15)
      have c24 := (((((((((P5_2.ext E6).other R7 (own_ne P5_2.lt ge6)).other R8 (own_ne P5_2.lt ge6)).other R9 (own_ne P5_2.lt ge6)).ext E10).keep K14 (ninS (own_ne c22.lt ge10) nin0)).ext E15).ext E16).keep K17 (ninS (own_ne c23.lt ge16) nin0))
      have c25 := (((((((((P5_1.ext E6).other R7 (Or.inl (own_ne c18.lt ge6))).other R8 (Or.inl (own_ne c18.lt ge6))).other R9 (Or.inl (own_ne c18.lt ge6))).ext E10).keep K14 (ninS (own_ne c19.lt ge10) nin0)).ext E15).ext E16).keep K17 (ninS (own_ne c20.lt ge16) nin0))
      have c26 := ((c20.ext E16).keep K17)
      have c27 := (c23.ext E16)
      have c28 := (A16.keep K17)
      refine o_virtualW W17 (y := mn17) (z := mn17) (w61 hw) (w62 hw) (o_nf W17 rfl (w64 hw)) (w64 hw) (w63 hw) (by decide) c28 (argsL := [(.ref b3)]) (CtrW.back (Wd := 0) W17 (rm25 l hw gCS b16 b3 r1_17 r2_17 r3_17 r1_5 r2_5 h17 W17.old P17_2 P17_3 SgCS NgCS P17_6 P17_4 P17_7 P17_5 (Nat.le_trans W16.zs P17_1) (Nat.le_trans W16.zs P17_0) c26 c21 c24 (own_ne' c27.lt P17_1) c25) (w65 hw) (w36 hw) (by decide) (by decide) (own_EL hw)) (by rw [hml]; rfl) (lenOf pd15 rfl) (S := []) rfl (by exact Nat.le_of_eq rfl) 275 (hb hy at_272) rfl (cells' := 15) (slots' := 55) rfl rfl (by decide) (by decide) (wy := [r2_17, r1_17]) qf (allS ⟨(Nat.le_trans W16.zs P17_1), (Or.inr (Nat.le_trans W16.keep.1 P17_1))⟩ (allS ⟨(Nat.le_trans W16.zs P17_0), (Or.inr (Nat.le_trans W16.keep.1 P17_0))⟩ all0))  ?_
      intro v29 T29 h29 V29 lo29 W29 K29 C29 q29
      obtain ⟨P29_0, P29_1, P29_2, P29_3, rfl⟩ := q29.2.2
      show Gl _ _ _ _ _ _ _ _ [(.ref b16)]
      refine o_astore W29 (L' := #[vi p0, vi p1, vi p2, vi p3, vi p4, vi 0, vi 0, vi (p0 &&& 255), vi (p1 &&& 255), vi (p2 &&& 255), vi (p3 &&& 255), vr b2, vr b3, vi 0, vr b6, vr b10, vr b15, vr b16, vr b16]) 277 (hb hy at_275) rfl rfl rfl <| o_aload W29 279 (hb hy at_277) rfl rfl rfl <| o_aload W29 281 (hb hy at_279) rfl rfl rfl ?_
      refine o_acmpY W29 286 (hb hy at_281) rfl rfl (XT.aa_eq_t rfl) (by decide) rfl ?_
      refine o_aload W29 288 (hb hy at_286) rfl rfl rfl <| o_aload W29 290 (hb hy at_288) rfl rfl rfl ?_
      have c30 := (P17_2.keep K29 (ninS (own_ne A16.lt P17_1) (ninS (own_ne A16.lt P17_0) nin0)))
      have c31 := (P17_3.keep K29)
      have c32 := (c28.keep K29)
      refine o_virtualC W29 (w132 hw) (w133 hw) (o_nf W29 rfl (w135 hw)) (w135 hw) (w134 hw) (by decide) c32 (w136 hw) (w36 hw) (rm36 l hw gCS b16 r1_17 r2_17 r3_17 (b8 60) (b8 47) h29 W29.old c30 c31 P29_1 P29_0 SgCS NgCS P29_3 P29_2) 1 17 62 (by decide) (by rw [hml]; rfl) (lenOf pd22 rfl) [(.ref b10)] rfl rfl 293 (hb hy at_290) rfl rfl rfl all0 (fun _ K => IW.keep K sf0 W29.inv) ?_
      intro v33 T33 h33 lo33 W33 K33 q33
      obtain ⟨r1_33, r2_33, r3_33, P33_0, P33_1, P33_2, P33_3, P33_4, P33_5, rfl⟩ := q33.2.2
      show Gl _ _ _ _ _ _ _ _ [(.ref r1_33), (.ref b10)]
      have c34 := (X14.ext E15)
      have c35 := (c34.ext E16)
      have c36 := (((((Fc14.ext E15).ext E16).keep K17 (ninS (own_ne c34.lt ge16) nin0)).keep K29 (ninS (own_ne c35.lt P17_1) (ninS (own_ne c35.lt P17_0) nin0))).keep K33 nin0)
      have c37 := (((((Fv14.ext E15).ext E16).keep K17 (ninS (own_ne c34.lt ge16) nin0)).keep K29 (ninS (own_ne c35.lt P17_1) (ninS (own_ne c35.lt P17_0) nin0))).keep K33 nin0)
      have c38 := (B14.ext E15)
      have c39 := (c38.ext E16)
      have c40 := (((((B14.ext E15).ext E16).keep K17 (ninS (own_ne c38.lt ge16) nin0)).keep K29 (ninS (own_ne c39.lt P17_1) (ninS (own_ne c39.lt P17_0) nin0))).keep K33 nin0)
      have c41 := (((c35.keep K17).keep K29).keep K33)
      have c42 := ((c35.keep K17).keep K29)
      refine o_virtualC W33 (w178 hw) (w179 hw) (o_nf W33 rfl (w181 hw)) (w181 hw) (w180 hw) (by decide) c41 (w182 hw) (w3 hw) (rm38 l hw gCS b10 r1_33 t14 r2_33 kb14 r3_33 (b8 60) (b8 47) h33 W33.old c41 P33_2 (own_ne c42.lt P33_0) SgCS NgCS c36 P33_4 c37 P33_3 c40 P33_5 rfl rfl) 0 17 62 (by decide) (by rw [hml]; rfl) (lenOf pd24 rfl) [] rfl rfl 296 (hb hy at_293) rfl rfl rfl all0 (fun _ K => IW.keep K sf0 W33.inv) ?_
      intro v43 T43 h43 lo43 W43 K43 q43
      obtain rfl := q43.2.2
      show Gl _ _ _ _ _ _ _ _ [(.int 1)]
      exact o_retNW W43 (own_EL hw) hlk (t := .boolean) hret (by simp) (z' := (1 : Int32)) (by decide) (hb hy at_296) (by decide) (by decide) rfl
    · rw [ek1]
      refine o_iload W0 56 (hb hy at_54) rfl rfl ?_
      refine o_newP W0 (aty := .char) (w0 hw) (fun _ E => IW.ext E W0.inv) (by decide) (cap := 1) (by decide) (by decide) 58 (hb hy at_56) rfl (cells' := 1) (slots' := 1) rfl rfl (by decide) (by decide) (vs := [iZ]) (dv := iZ) rfl rfl ?_
      intro b44 T44 h44 k44 W44 E44 ge44 gz44 gb44 V44
      refine o_astore W44 (L' := #[vi p0, vi p1, vi p2, vi p3, vi p4, vi 1, vi 0, vi (p0 &&& 255), vi (p1 &&& 255), vi (p2 &&& 255), vi (p3 &&& 255), vr b44, un, un, un, un, un, un, un]) 60 (hb hy at_58) rfl rfl rfl <| o_iload W44 62 (hb hy at_60) rfl rfl <| o_ifN W44 65 (hb hy at_62) (XT.i0_le_f (by decide)) rfl <| o_aload W44 67 (hb hy at_65) rfl rfl rfl <| o_iconst W44 (v := 0) 68 (hb hy at_67) rfl rfl <| o_iload W44 70 (hb hy at_68) rfl rfl ?_
      refine o_stC W44 V44 (i := 0) (x' := (p0 &&& 255)) (by decide) (by decide) (by decide) (Nat.lt_of_sub_eq_succ rfl) (own_i2c (own_b255 _)) (vs' := [(.int (p0 &&& 255))]) rfl gz44 (Or.inr gb44) (fun _ R => IW.wr R (Safe.arv W44.al V44 (by decide)) W44.inv) 71 (hb hy at_70) rfl ?_
      intro T45 h45 lo45 W45 R45 V45
      refine o_iload W45 73 (hb hy at_71) rfl rfl <| o_iconst W45 (v := 1) 74 (hb hy at_73) rfl rfl <| o_icmpY W45 83 (hb hy at_74) (XT.ii_le_t (by decide)) (by decide) rfl <| o_iload W45 85 (hb hy at_83) rfl rfl <| o_iconst W45 (v := 2) 86 (hb hy at_85) rfl rfl <| o_icmpY W45 95 (hb hy at_86) (XT.ii_le_t (by decide)) (by decide) rfl ?_
      refine o_new W45 (w1 hw) (w2 hw) (w3 hw) (fun _ E => IW.ext E W45.inv) 98 (hb hy at_95) rfl (cells' := 2) (slots' := 5) rfl rfl (by decide) (by decide) ?_
      intro b46 T46 h46 W46 E46 ge46 gz46 gb46 A46 D46
      have Fb46_value : Fld Z h46 b46 s0 "value" "[B" .null := D46 (Or.inr (w16 hw)) (ty := (.array .byte)) (by decide)
      have Fb46_coder : Fld Z h46 b46 s0 "coder" "B" iZ := D46 (Or.inr (w17 hw)) (ty := .byte) (by decide)
      refine o_dup W46 99 (hb hy at_98) rfl rfl <| o_aload W46 101 (hb hy at_99) rfl rfl rfl ?_
      have c47 := (V45.ext E46)
      have ok48 : own_ok [(p0 &&& 255)] := ⟨by simp only [List.mem_cons, List.not_mem_nil, or_false, forall_eq_or_imp, forall_eq, false_imp_iff, implies_true]; exact (own_b255 _), Nat.le_of_ble_eq_true rfl⟩
      have sf49 := own_safeS (EL := consts_1) W46.al A46 Fb46_value
      refine o_special W46 (y := mn1) rfl (w4 hw) (w5 hw) (w6 hw) (by decide) (a := b46) (argsL := [(.ref b44)]) (StrChars.Road.backV (W := 1) W46.2.2.2.1 (own_hV hw) (kI := 4) (w2 hw) (cs := [(p0 &&& 255)]) (bs := [((p0 &&& 255)).toInt8.toInt32]) (n := 1) (n0 := Z.heap.size) gz46 W46.zs A46 Fb46_value Fb46_coder c47 (SgCS.ext W46.ox) NgCS rfl rfl (by decide) (by decide) ok48.1 rfl (by decide) (by decide)) (by rw [hml]; rfl) (lenOf pd1 rfl) (S := [(.ref b46)]) rfl (by exact Nat.le_of_eq rfl) 104 (hb hy at_101) rfl (cells' := 3) (slots' := 6) rfl rfl (by decide) (by decide) (wy := [b46]) (fun _ _ _ q => ⟨q.2.1, q.2.2.1⟩) (allS ⟨gz46, (Or.inr gb46)⟩ all0) (fun _ K => IW.keep K (sfS sf49 sf0) W46.inv) ?_
      intro v50 T50 h50 lo50 W50 K50 q50
      obtain ⟨rfl, -, -, X50, Fc50, t50, kb50, gz50, ge50, -, Fv50, A50⟩ := q50
      have B50 : Arv Z h50 t50 kb50 .byte 1 [(.int (b8 (p0 &&& 255)))] iZ := A50
      show Gl _ _ _ _ _ _ _ _ [(.ref b46)]
      refine o_astore W50 (L' := #[vi p0, vi p1, vi p2, vi p3, vi p4, vi 1, vi 0, vi (p0 &&& 255), vi (p1 &&& 255), vi (p2 &&& 255), vi (p3 &&& 255), vr b44, vr b46, un, un, un, un, un, un]) 106 (hb hy at_104) rfl rfl rfl <| o_iload W50 108 (hb hy at_106) rfl rfl <| o_ifY W50 115 (hb hy at_108) (XT.i0_eq_t (by decide)) (by decide) rfl <| o_iconst W50 (v := 0) 116 (hb hy at_115) rfl rfl <| o_istore W50 (L' := #[vi p0, vi p1, vi p2, vi p3, vi p4, vi 1, vi 0, vi (p0 &&& 255), vi (p1 &&& 255), vi (p2 &&& 255), vi (p3 &&& 255), vr b44, vr b46, vi 0, un, un, un, un, un]) 118 (hb hy at_116) rfl rfl <| o_iload W50 120 (hb hy at_118) rfl rfl ?_
      refine o_iload W50 122 (hb hy at_120) rfl rfl <| o_iadd W50 (v := 1) 123 (hb hy at_122) (by decide) rfl <| o_iconst W50 (v := 3) 124 (hb hy at_123) rfl rfl <| o_iadd W50 (v := 4) 125 (hb hy at_124) (by decide) rfl ?_
      refine o_newP W50 (aty := .char) (w0 hw) (fun _ E => IW.ext E W50.inv) (by decide) (cap := 4) (by decide) (by decide) 127 (hb hy at_125) rfl (cells' := 4) (slots' := 10) rfl rfl (by decide) (by decide) (vs := [iZ, iZ, iZ, iZ]) (dv := iZ) rfl rfl ?_
      intro b51 T51 h51 k51 W51 E51 ge51 gz51 gb51 V51
      refine o_astore W51 (L' := #[vi p0, vi p1, vi p2, vi p3, vi p4, vi 1, vi 0, vi (p0 &&& 255), vi (p1 &&& 255), vi (p2 &&& 255), vi (p3 &&& 255), vr b44, vr b46, vi 0, vr b51, un, un, un, un]) 129 (hb hy at_127) rfl rfl rfl <| o_iload W51 131 (hb hy at_129) rfl rfl <| o_ifY W51 152 (hb hy at_131) (XT.i0_eq_t (by decide)) (by decide) rfl <| o_aload W51 154 (hb hy at_152) rfl rfl rfl <| o_iload W51 156 (hb hy at_154) rfl rfl <| o_bipush W51 (v := 60) 158 (hb hy at_156) (by decide) rfl ?_
      refine o_stC W51 V51 (i := 0) (x' := (60 : Int32)) (by decide) (by decide) (by decide) (Nat.lt_of_sub_eq_succ rfl) (by decide) (vs' := [(.int 60), iZ, iZ, iZ]) rfl gz51 (Or.inr gb51) (fun _ R => IW.wr R (Safe.arv W51.al V51 (by decide)) W51.inv) 159 (hb hy at_158) rfl ?_
      intro T52 h52 lo52 W52 R52 V52
      refine o_aload W52 161 (hb hy at_159) rfl rfl rfl <| o_iload W52 163 (hb hy at_161) rfl rfl <| o_iconst W52 (v := 1) 164 (hb hy at_163) rfl rfl <| o_iadd W52 (v := 1) 165 (hb hy at_164) (by decide) rfl <| o_bipush W52 (v := 47) 167 (hb hy at_165) (by decide) rfl ?_
      refine o_stC W52 V52 (i := 1) (x' := (47 : Int32)) (by decide) (by decide) (by decide) (Nat.lt_of_sub_eq_succ rfl) (by decide) (vs' := [(.int 60), (.int 47), iZ, iZ]) rfl gz51 (Or.inr gb51) (fun _ R => IW.wr R (Safe.arv W52.al V52 (by decide)) W52.inv) 168 (hb hy at_167) rfl ?_
      intro T53 h53 lo53 W53 R53 V53
      refine o_iload W53 170 (hb hy at_168) rfl rfl <| o_ifN W53 173 (hb hy at_170) (XT.i0_le_f (by decide)) rfl <| o_aload W53 175 (hb hy at_173) rfl rfl rfl <| o_iload W53 177 (hb hy at_175) rfl rfl <| o_iconst W53 (v := 2) 178 (hb hy at_177) rfl rfl <| o_iadd W53 (v := 2) 179 (hb hy at_178) (by decide) rfl ?_
      refine o_iload W53 181 (hb hy at_179) rfl rfl ?_
      refine o_stC W53 V53 (i := 2) (x' := (p0 &&& 255)) (by decide) (by decide) (by decide) (Nat.lt_of_sub_eq_succ rfl) (own_i2c (own_b255 _)) (vs' := [(.int 60), (.int 47), (.int (p0 &&& 255)), iZ]) rfl gz51 (Or.inr gb51) (fun _ R => IW.wr R (Safe.arv W53.al V53 (by decide)) W53.inv) 182 (hb hy at_181) rfl ?_
      intro T54 h54 lo54 W54 R54 V54
      refine o_iload W54 184 (hb hy at_182) rfl rfl <| o_iconst W54 (v := 1) 185 (hb hy at_184) rfl rfl <| o_icmpY W54 197 (hb hy at_185) (XT.ii_le_t (by decide)) (by decide) rfl <| o_iload W54 199 (hb hy at_197) rfl rfl <| o_iconst W54 (v := 2) 200 (hb hy at_199) rfl rfl <| o_icmpY W54 212 (hb hy at_200) (XT.ii_le_t (by decide)) (by decide) rfl ?_
      refine o_aload W54 214 (hb hy at_212) rfl rfl rfl <| o_iload W54 216 (hb hy at_214) rfl rfl <| o_iconst W54 (v := 2) 217 (hb hy at_216) rfl rfl <| o_iadd W54 (v := 2) 218 (hb hy at_217) (by decide) rfl <| o_iload W54 220 (hb hy at_218) rfl rfl <| o_iadd W54 (v := 3) 221 (hb hy at_220) (by decide) rfl ?_
      refine o_bipush W54 (v := 62) 223 (hb hy at_221) (by decide) rfl ?_
      refine o_stC W54 V54 (i := 3) (x' := (62 : Int32)) (by decide) (by decide) (by decide) (Nat.lt_of_sub_eq_succ rfl) (by decide) (vs' := [(.int 60), (.int 47), (.int (p0 &&& 255)), (.int 62)]) rfl gz51 (Or.inr gb51) (fun _ R => IW.wr R (Safe.arv W54.al V54 (by decide)) W54.inv) 224 (hb hy at_223) rfl ?_
      intro T55 h55 lo55 W55 R55 V55
      refine o_new W55 (w1 hw) (w2 hw) (w3 hw) (fun _ E => IW.ext E W55.inv) 227 (hb hy at_224) rfl (cells' := 5) (slots' := 14) rfl rfl (by decide) (by decide) ?_
      intro b56 T56 h56 W56 E56 ge56 gz56 gb56 A56 D56
      have Fb56_value : Fld Z h56 b56 s0 "value" "[B" .null := D56 (Or.inr (w16 hw)) (ty := (.array .byte)) (by decide)
      have Fb56_coder : Fld Z h56 b56 s0 "coder" "B" iZ := D56 (Or.inr (w17 hw)) (ty := .byte) (by decide)
      refine o_dup W56 228 (hb hy at_227) rfl rfl <| o_aload W56 230 (hb hy at_228) rfl rfl rfl ?_
      have c57 := (V55.ext E56)
      have ok58 : own_ok [(60 : Int32), (47 : Int32), (p0 &&& 255), (62 : Int32)] := ⟨by simp only [List.mem_cons, List.not_mem_nil, or_false, forall_eq_or_imp, forall_eq, false_imp_iff, implies_true]; exact ⟨(by unfold own_b; decide), (by unfold own_b; decide), (own_b255 _), (by unfold own_b; decide)⟩, Nat.le_of_ble_eq_true rfl⟩
      have sf59 := own_safeS (EL := consts_1) W56.al A56 Fb56_value
      refine o_special W56 (y := mn1) rfl (w4 hw) (w5 hw) (w6 hw) (by decide) (a := b56) (argsL := [(.ref b51)]) (StrChars.Road.backV (W := 1) W56.2.2.2.1 (own_hV hw) (kI := 4) (w2 hw) (cs := [(60 : Int32), (47 : Int32), (p0 &&& 255), (62 : Int32)]) (bs := [((60 : Int32)).toInt8.toInt32, ((47 : Int32)).toInt8.toInt32, ((p0 &&& 255)).toInt8.toInt32, ((62 : Int32)).toInt8.toInt32]) (n := 4) (n0 := Z.heap.size) gz56 W56.zs A56 Fb56_value Fb56_coder c57 (SgCS.ext W56.ox) NgCS rfl rfl (by decide) (by decide) ok58.1 rfl (by decide) (by decide)) (by rw [hml]; rfl) (lenOf pd1 rfl) (S := [(.ref b56)]) rfl (by exact Nat.le_of_eq rfl) 233 (hb hy at_230) rfl (cells' := 6) (slots' := 18) rfl rfl (by decide) (by decide) (wy := [b56]) (fun _ _ _ q => ⟨q.2.1, q.2.2.1⟩) (allS ⟨gz56, (Or.inr gb56)⟩ all0) (fun _ K => IW.keep K (sfS sf59 sf0) W56.inv) ?_
      intro v60 T60 h60 lo60 W60 K60 q60
      obtain ⟨rfl, -, -, X60, Fc60, t60, kb60, gz60, ge60, -, Fv60, A60⟩ := q60
      have B60 : Arv Z h60 t60 kb60 .byte 4 [(.int (b8 60)), (.int (b8 47)), (.int (b8 (p0 &&& 255))), (.int (b8 62))] iZ := A60
      show Gl _ _ _ _ _ _ _ _ [(.ref b56)]
      refine o_astore W60 (L' := #[vi p0, vi p1, vi p2, vi p3, vi p4, vi 1, vi 0, vi (p0 &&& 255), vi (p1 &&& 255), vi (p2 &&& 255), vi (p3 &&& 255), vr b44, vr b46, vi 0, vr b51, vr b56, un, un, un]) 235 (hb hy at_233) rfl rfl rfl <| o_iconst W60 (v := 0) 236 (hb hy at_235) rfl rfl ?_
      refine o_newR W60 (w1 hw) (w33 hw) (fun _ E => IW.ext E W60.inv) (by decide) (cap := 0) (by decide) (by decide) 239 (hb hy at_236) rfl (cells' := 7) (slots' := 18) rfl rfl (by decide) (by decide) (vs := []) rfl ?_
      intro b61 T61 h61 k61 W61 E61 ge61 gz61 gb61 V61 O61
      refine o_astore W61 (L' := #[vi p0, vi p1, vi p2, vi p3, vi p4, vi 1, vi 0, vi (p0 &&& 255), vi (p1 &&& 255), vi (p2 &&& 255), vi (p3 &&& 255), vr b44, vr b46, vi 0, vr b51, vr b56, vr b61, un, un]) 241 (hb hy at_239) rfl rfl rfl ?_
      refine o_new W61 (w34 hw) (w35 hw) (w36 hw) (fun _ E => IW.ext E W61.inv) 244 (hb hy at_241) rfl (cells' := 8) (slots' := 19) rfl rfl (by decide) (by decide) ?_
      intro b62 T62 h62 W62 E62 ge62 gz62 gb62 A62 D62
      have Fb62_out : Fld Z h62 b62 s4 "out" s5 .null := D62 (Or.inr (w60 hw)) (ty := (.object s2)) (by decide)
      refine o_dup W62 245 (hb hy at_244) rfl rfl ?_
      refine o_specialC W62 rfl (w37 hw) (w38 hw) (w39 hw) (by decide) (w36 hw) (rm5 l hw gCS b62 h62 W62.old SgCS NgCS A62 Fb62_out gz62) 1 10 39 (by decide) (by rw [hml]; rfl) (lenOf pd3 rfl) [(.ref b62)] rfl rfl 248 (hb hy at_245) rfl rfl rfl (allS ⟨gz62, (Or.inr gb62)⟩ all0) (fun _ K => IW.keep K (sfS (Safe.exa W62.al A62 (by decide) (by decide)) sf0) W62.inv) ?_
      intro v63 T63 h63 lo63 W63 K63 q63
      obtain ⟨r1_63, r2_63, r3_63, P63_0, P63_1, P63_2, P63_3, P63_4, P63_5, P63_6, P63_7, rfl⟩ := q63.2.2
      show Gl _ _ _ _ _ _ _ _ [(.ref b62)]
      refine o_astore W63 (L' := #[vi p0, vi p1, vi p2, vi p3, vi p4, vi 1, vi 0, vi (p0 &&& 255), vi (p1 &&& 255), vi (p2 &&& 255), vi (p3 &&& 255), vr b44, vr b46, vi 0, vr b51, vr b56, vr b61, vr b62, un]) 250 (hb hy at_248) rfl rfl rfl <| o_iload W63 252 (hb hy at_250) rfl rfl <| o_ifY W63 268 (hb hy at_252) (XT.i0_eq_t (by decide)) (by decide) rfl <| o_aload W63 270 (hb hy at_268) rfl rfl rfl <| o_aload W63 272 (hb hy at_270) rfl rfl rfl ?_
      have c64 := (((((X50.ext E51).wr R52).wr R53).wr R54).wr R55)
      have c65 := (((c64.ext E56).keep K60).ext E61)
      have c66 := ((((((((((Fv50.ext E51).other R52 (Or.inl (own_ne X50.lt ge51))).other R53 (Or.inl (own_ne X50.lt ge51))).other R54 (Or.inl (own_ne X50.lt ge51))).other R55 (Or.inl (own_ne X50.lt ge51))).ext E56).keep K60 (ninS (own_ne c64.lt ge56) nin0)).ext E61).ext E62).keep K63 (ninS (own_ne c65.lt ge62) nin0))
      have c67 := (((((B50.ext E51).other R52 (own_ne B50.lt ge51)).other R53 (own_ne B50.lt ge51)).other R54 (own_ne B50.lt ge51)).other R55 (own_ne B50.lt ge51))
      have c68 := (((c67.ext E56).keep K60 (ninS (own_ne c67.lt ge56) nin0)).ext E61)
      have c69 := ((((((((((B50.ext E51).other R52 (own_ne B50.lt ge51)).other R53 (own_ne B50.lt ge51)).other R54 (own_ne B50.lt ge51)).other R55 (own_ne B50.lt ge51)).ext E56).keep K60 (ninS (own_ne c67.lt ge56) nin0)).ext E61).ext E62).keep K63 (ninS (own_ne c68.lt ge62) nin0))
      have c70 := ((((((((((Fc50.ext E51).other R52 (Or.inl (own_ne X50.lt ge51))).other R53 (Or.inl (own_ne X50.lt ge51))).other R54 (Or.inl (own_ne X50.lt ge51))).other R55 (Or.inl (own_ne X50.lt ge51))).ext E56).keep K60 (ninS (own_ne c64.lt ge56) nin0)).ext E61).ext E62).keep K63 (ninS (own_ne c65.lt ge62) nin0))
      have c71 := ((c65.ext E62).keep K63)
      have c72 := (c68.ext E62)
      have c73 := (A62.keep K63)
      refine o_virtualW W63 (y := mn17) (z := mn17) (w61 hw) (w62 hw) (o_nf W63 rfl (w64 hw)) (w64 hw) (w63 hw) (by decide) c73 (argsL := [(.ref b46)]) (CtrW.back (Wd := 0) W63 (rm47 l hw gCS b62 b46 r1_63 r2_63 r3_63 t50 kb50 (p0 &&& 255) h63 W63.old P63_2 P63_3 SgCS NgCS P63_6 P63_4 P63_7 P63_5 (Nat.le_trans W62.zs P63_1) (Nat.le_trans W62.zs P63_0) c71 c66 c69 (own_ne' c72.lt P63_1) c70) (w65 hw) (w36 hw) (by decide) (by decide) (own_EL hw)) (by rw [hml]; rfl) (lenOf pd15 rfl) (S := []) rfl (by exact Nat.le_of_eq rfl) 275 (hb hy at_272) rfl (cells' := 12) (slots' := 51) rfl rfl (by decide) (by decide) (wy := [r2_63, r1_63]) qf (allS ⟨(Nat.le_trans W62.zs P63_1), (Or.inr (Nat.le_trans W62.keep.1 P63_1))⟩ (allS ⟨(Nat.le_trans W62.zs P63_0), (Or.inr (Nat.le_trans W62.keep.1 P63_0))⟩ all0))  ?_
      intro v74 T74 h74 V74 lo74 W74 K74 C74 q74
      obtain ⟨P74_0, P74_1, P74_2, P74_3, rfl⟩ := q74.2.2
      show Gl _ _ _ _ _ _ _ _ [(.ref b62)]
      refine o_astore W74 (L' := #[vi p0, vi p1, vi p2, vi p3, vi p4, vi 1, vi 0, vi (p0 &&& 255), vi (p1 &&& 255), vi (p2 &&& 255), vi (p3 &&& 255), vr b44, vr b46, vi 0, vr b51, vr b56, vr b61, vr b62, vr b62]) 277 (hb hy at_275) rfl rfl rfl <| o_aload W74 279 (hb hy at_277) rfl rfl rfl <| o_aload W74 281 (hb hy at_279) rfl rfl rfl ?_
      refine o_acmpY W74 286 (hb hy at_281) rfl rfl (XT.aa_eq_t rfl) (by decide) rfl ?_
      refine o_aload W74 288 (hb hy at_286) rfl rfl rfl <| o_aload W74 290 (hb hy at_288) rfl rfl rfl ?_
      have c75 := (P63_2.keep K74 (ninS (own_ne A62.lt P63_1) (ninS (own_ne A62.lt P63_0) nin0)))
      have c76 := (P63_3.keep K74)
      have c77 := (c73.keep K74)
      refine o_virtualC W74 (w132 hw) (w133 hw) (o_nf W74 rfl (w135 hw)) (w135 hw) (w134 hw) (by decide) c77 (w136 hw) (w36 hw) (rm57 l hw gCS b62 r1_63 r2_63 r3_63 (b8 60) (b8 47) (b8 (p0 &&& 255)) h74 W74.old c75 c76 P74_1 P74_0 SgCS NgCS P74_3 P74_2) 1 14 59 (by decide) (by rw [hml]; rfl) (lenOf pd22 rfl) [(.ref b56)] rfl rfl 293 (hb hy at_290) rfl rfl rfl all0 (fun _ K => IW.keep K sf0 W74.inv) ?_
      intro v78 T78 h78 lo78 W78 K78 q78
      obtain ⟨r1_78, r2_78, r3_78, P78_0, P78_1, P78_2, P78_3, P78_4, P78_5, rfl⟩ := q78.2.2
      show Gl _ _ _ _ _ _ _ _ [(.ref r1_78), (.ref b56)]
      have c79 := (X60.ext E61)
      have c80 := (c79.ext E62)
      have c81 := (((((Fc60.ext E61).ext E62).keep K63 (ninS (own_ne c79.lt ge62) nin0)).keep K74 (ninS (own_ne c80.lt P63_1) (ninS (own_ne c80.lt P63_0) nin0))).keep K78 nin0)
      have c82 := (((((Fv60.ext E61).ext E62).keep K63 (ninS (own_ne c79.lt ge62) nin0)).keep K74 (ninS (own_ne c80.lt P63_1) (ninS (own_ne c80.lt P63_0) nin0))).keep K78 nin0)
      have c83 := (B60.ext E61)
      have c84 := (c83.ext E62)
      have c85 := (((((B60.ext E61).ext E62).keep K63 (ninS (own_ne c83.lt ge62) nin0)).keep K74 (ninS (own_ne c84.lt P63_1) (ninS (own_ne c84.lt P63_0) nin0))).keep K78 nin0)
      have c86 := (((c80.keep K63).keep K74).keep K78)
      have c87 := ((c80.keep K63).keep K74)
      refine o_virtualC W78 (w178 hw) (w179 hw) (o_nf W78 rfl (w181 hw)) (w181 hw) (w180 hw) (by decide) c86 (w182 hw) (w3 hw) (rm59 l hw gCS b56 r1_78 t60 r2_78 kb60 (p0 &&& 255) r3_78 (b8 60) (b8 47) (b8 (p0 &&& 255)) h78 W78.old c86 P78_2 (own_ne c87.lt P78_0) SgCS NgCS c81 P78_4 c82 P78_3 c85 P78_5 rfl rfl rfl) 0 14 59 (by decide) (by rw [hml]; rfl) (lenOf pd24 rfl) [] rfl rfl 296 (hb hy at_293) rfl rfl rfl all0 (fun _ K => IW.keep K sf0 W78.inv) ?_
      intro v88 T88 h88 lo88 W88 K88 q88
      obtain rfl := q88.2.2
      show Gl _ _ _ _ _ _ _ _ [(.int 1)]
      exact o_retNW W88 (own_EL hw) hlk (t := .boolean) hret (by simp) (z' := (1 : Int32)) (by decide) (hb hy at_296) (by decide) (by decide) rfl
    · rw [ek1]
      refine o_iload W0 56 (hb hy at_54) rfl rfl ?_
      refine o_newP W0 (aty := .char) (w0 hw) (fun _ E => IW.ext E W0.inv) (by decide) (cap := 2) (by decide) (by decide) 58 (hb hy at_56) rfl (cells' := 1) (slots' := 2) rfl rfl (by decide) (by decide) (vs := [iZ, iZ]) (dv := iZ) rfl rfl ?_
      intro b89 T89 h89 k89 W89 E89 ge89 gz89 gb89 V89
      refine o_astore W89 (L' := #[vi p0, vi p1, vi p2, vi p3, vi p4, vi 2, vi 0, vi (p0 &&& 255), vi (p1 &&& 255), vi (p2 &&& 255), vi (p3 &&& 255), vr b89, un, un, un, un, un, un, un]) 60 (hb hy at_58) rfl rfl rfl <| o_iload W89 62 (hb hy at_60) rfl rfl <| o_ifN W89 65 (hb hy at_62) (XT.i0_le_f (by decide)) rfl <| o_aload W89 67 (hb hy at_65) rfl rfl rfl <| o_iconst W89 (v := 0) 68 (hb hy at_67) rfl rfl <| o_iload W89 70 (hb hy at_68) rfl rfl ?_
      refine o_stC W89 V89 (i := 0) (x' := (p0 &&& 255)) (by decide) (by decide) (by decide) (Nat.lt_of_sub_eq_succ rfl) (own_i2c (own_b255 _)) (vs' := [(.int (p0 &&& 255)), iZ]) rfl gz89 (Or.inr gb89) (fun _ R => IW.wr R (Safe.arv W89.al V89 (by decide)) W89.inv) 71 (hb hy at_70) rfl ?_
      intro T90 h90 lo90 W90 R90 V90
      refine o_iload W90 73 (hb hy at_71) rfl rfl <| o_iconst W90 (v := 1) 74 (hb hy at_73) rfl rfl <| o_icmpN W90 77 (hb hy at_74) (XT.ii_le_f (by decide)) rfl <| o_aload W90 79 (hb hy at_77) rfl rfl rfl <| o_iconst W90 (v := 1) 80 (hb hy at_79) rfl rfl <| o_iload W90 82 (hb hy at_80) rfl rfl ?_
      refine o_stC W90 V90 (i := 1) (x' := (p1 &&& 255)) (by decide) (by decide) (by decide) (Nat.lt_of_sub_eq_succ rfl) (own_i2c (own_b255 _)) (vs' := [(.int (p0 &&& 255)), (.int (p1 &&& 255))]) rfl gz89 (Or.inr gb89) (fun _ R => IW.wr R (Safe.arv W90.al V90 (by decide)) W90.inv) 83 (hb hy at_82) rfl ?_
      intro T91 h91 lo91 W91 R91 V91
      refine o_iload W91 85 (hb hy at_83) rfl rfl <| o_iconst W91 (v := 2) 86 (hb hy at_85) rfl rfl <| o_icmpY W91 95 (hb hy at_86) (XT.ii_le_t (by decide)) (by decide) rfl ?_
      refine o_new W91 (w1 hw) (w2 hw) (w3 hw) (fun _ E => IW.ext E W91.inv) 98 (hb hy at_95) rfl (cells' := 2) (slots' := 6) rfl rfl (by decide) (by decide) ?_
      intro b92 T92 h92 W92 E92 ge92 gz92 gb92 A92 D92
      have Fb92_value : Fld Z h92 b92 s0 "value" "[B" .null := D92 (Or.inr (w16 hw)) (ty := (.array .byte)) (by decide)
      have Fb92_coder : Fld Z h92 b92 s0 "coder" "B" iZ := D92 (Or.inr (w17 hw)) (ty := .byte) (by decide)
      refine o_dup W92 99 (hb hy at_98) rfl rfl <| o_aload W92 101 (hb hy at_99) rfl rfl rfl ?_
      have c93 := (V91.ext E92)
      have ok94 : own_ok [(p0 &&& 255), (p1 &&& 255)] := ⟨by simp only [List.mem_cons, List.not_mem_nil, or_false, forall_eq_or_imp, forall_eq, false_imp_iff, implies_true]; exact ⟨(own_b255 _), (own_b255 _)⟩, Nat.le_of_ble_eq_true rfl⟩
      have sf95 := own_safeS (EL := consts_1) W92.al A92 Fb92_value
      refine o_special W92 (y := mn1) rfl (w4 hw) (w5 hw) (w6 hw) (by decide) (a := b92) (argsL := [(.ref b89)]) (StrChars.Road.backV (W := 1) W92.2.2.2.1 (own_hV hw) (kI := 4) (w2 hw) (cs := [(p0 &&& 255), (p1 &&& 255)]) (bs := [((p0 &&& 255)).toInt8.toInt32, ((p1 &&& 255)).toInt8.toInt32]) (n := 2) (n0 := Z.heap.size) gz92 W92.zs A92 Fb92_value Fb92_coder c93 (SgCS.ext W92.ox) NgCS rfl rfl (by decide) (by decide) ok94.1 rfl (by decide) (by decide)) (by rw [hml]; rfl) (lenOf pd1 rfl) (S := [(.ref b92)]) rfl (by exact Nat.le_of_eq rfl) 104 (hb hy at_101) rfl (cells' := 3) (slots' := 8) rfl rfl (by decide) (by decide) (wy := [b92]) (fun _ _ _ q => ⟨q.2.1, q.2.2.1⟩) (allS ⟨gz92, (Or.inr gb92)⟩ all0) (fun _ K => IW.keep K (sfS sf95 sf0) W92.inv) ?_
      intro v96 T96 h96 lo96 W96 K96 q96
      obtain ⟨rfl, -, -, X96, Fc96, t96, kb96, gz96, ge96, -, Fv96, A96⟩ := q96
      have B96 : Arv Z h96 t96 kb96 .byte 2 [(.int (b8 (p0 &&& 255))), (.int (b8 (p1 &&& 255)))] iZ := A96
      show Gl _ _ _ _ _ _ _ _ [(.ref b92)]
      refine o_astore W96 (L' := #[vi p0, vi p1, vi p2, vi p3, vi p4, vi 2, vi 0, vi (p0 &&& 255), vi (p1 &&& 255), vi (p2 &&& 255), vi (p3 &&& 255), vr b89, vr b92, un, un, un, un, un, un]) 106 (hb hy at_104) rfl rfl rfl <| o_iload W96 108 (hb hy at_106) rfl rfl <| o_ifY W96 115 (hb hy at_108) (XT.i0_eq_t (by decide)) (by decide) rfl <| o_iconst W96 (v := 0) 116 (hb hy at_115) rfl rfl <| o_istore W96 (L' := #[vi p0, vi p1, vi p2, vi p3, vi p4, vi 2, vi 0, vi (p0 &&& 255), vi (p1 &&& 255), vi (p2 &&& 255), vi (p3 &&& 255), vr b89, vr b92, vi 0, un, un, un, un, un]) 118 (hb hy at_116) rfl rfl <| o_iload W96 120 (hb hy at_118) rfl rfl ?_
      refine o_iload W96 122 (hb hy at_120) rfl rfl <| o_iadd W96 (v := 2) 123 (hb hy at_122) (by decide) rfl <| o_iconst W96 (v := 3) 124 (hb hy at_123) rfl rfl <| o_iadd W96 (v := 5) 125 (hb hy at_124) (by decide) rfl ?_
      refine o_newP W96 (aty := .char) (w0 hw) (fun _ E => IW.ext E W96.inv) (by decide) (cap := 5) (by decide) (by decide) 127 (hb hy at_125) rfl (cells' := 4) (slots' := 13) rfl rfl (by decide) (by decide) (vs := [iZ, iZ, iZ, iZ, iZ]) (dv := iZ) rfl rfl ?_
      intro b97 T97 h97 k97 W97 E97 ge97 gz97 gb97 V97
      refine o_astore W97 (L' := #[vi p0, vi p1, vi p2, vi p3, vi p4, vi 2, vi 0, vi (p0 &&& 255), vi (p1 &&& 255), vi (p2 &&& 255), vi (p3 &&& 255), vr b89, vr b92, vi 0, vr b97, un, un, un, un]) 129 (hb hy at_127) rfl rfl rfl <| o_iload W97 131 (hb hy at_129) rfl rfl <| o_ifY W97 152 (hb hy at_131) (XT.i0_eq_t (by decide)) (by decide) rfl <| o_aload W97 154 (hb hy at_152) rfl rfl rfl <| o_iload W97 156 (hb hy at_154) rfl rfl <| o_bipush W97 (v := 60) 158 (hb hy at_156) (by decide) rfl ?_
      refine o_stC W97 V97 (i := 0) (x' := (60 : Int32)) (by decide) (by decide) (by decide) (Nat.lt_of_sub_eq_succ rfl) (by decide) (vs' := [(.int 60), iZ, iZ, iZ, iZ]) rfl gz97 (Or.inr gb97) (fun _ R => IW.wr R (Safe.arv W97.al V97 (by decide)) W97.inv) 159 (hb hy at_158) rfl ?_
      intro T98 h98 lo98 W98 R98 V98
      refine o_aload W98 161 (hb hy at_159) rfl rfl rfl <| o_iload W98 163 (hb hy at_161) rfl rfl <| o_iconst W98 (v := 1) 164 (hb hy at_163) rfl rfl <| o_iadd W98 (v := 1) 165 (hb hy at_164) (by decide) rfl <| o_bipush W98 (v := 47) 167 (hb hy at_165) (by decide) rfl ?_
      refine o_stC W98 V98 (i := 1) (x' := (47 : Int32)) (by decide) (by decide) (by decide) (Nat.lt_of_sub_eq_succ rfl) (by decide) (vs' := [(.int 60), (.int 47), iZ, iZ, iZ]) rfl gz97 (Or.inr gb97) (fun _ R => IW.wr R (Safe.arv W98.al V98 (by decide)) W98.inv) 168 (hb hy at_167) rfl ?_
      intro T99 h99 lo99 W99 R99 V99
      refine o_iload W99 170 (hb hy at_168) rfl rfl <| o_ifN W99 173 (hb hy at_170) (XT.i0_le_f (by decide)) rfl <| o_aload W99 175 (hb hy at_173) rfl rfl rfl <| o_iload W99 177 (hb hy at_175) rfl rfl <| o_iconst W99 (v := 2) 178 (hb hy at_177) rfl rfl <| o_iadd W99 (v := 2) 179 (hb hy at_178) (by decide) rfl ?_
      refine o_iload W99 181 (hb hy at_179) rfl rfl ?_
      refine o_stC W99 V99 (i := 2) (x' := (p0 &&& 255)) (by decide) (by decide) (by decide) (Nat.lt_of_sub_eq_succ rfl) (own_i2c (own_b255 _)) (vs' := [(.int 60), (.int 47), (.int (p0 &&& 255)), iZ, iZ]) rfl gz97 (Or.inr gb97) (fun _ R => IW.wr R (Safe.arv W99.al V99 (by decide)) W99.inv) 182 (hb hy at_181) rfl ?_
      intro T100 h100 lo100 W100 R100 V100
      refine o_iload W100 184 (hb hy at_182) rfl rfl <| o_iconst W100 (v := 1) 185 (hb hy at_184) rfl rfl <| o_icmpN W100 188 (hb hy at_185) (XT.ii_le_f (by decide)) rfl <| o_aload W100 190 (hb hy at_188) rfl rfl rfl <| o_iload W100 192 (hb hy at_190) rfl rfl <| o_iconst W100 (v := 3) 193 (hb hy at_192) rfl rfl ?_
      refine o_iadd W100 (v := 3) 194 (hb hy at_193) (by decide) rfl <| o_iload W100 196 (hb hy at_194) rfl rfl ?_
      refine o_stC W100 V100 (i := 3) (x' := (p1 &&& 255)) (by decide) (by decide) (by decide) (Nat.lt_of_sub_eq_succ rfl) (own_i2c (own_b255 _)) (vs' := [(.int 60), (.int 47), (.int (p0 &&& 255)), (.int (p1 &&& 255)), iZ]) rfl gz97 (Or.inr gb97) (fun _ R => IW.wr R (Safe.arv W100.al V100 (by decide)) W100.inv) 197 (hb hy at_196) rfl ?_
      intro T101 h101 lo101 W101 R101 V101
      refine o_iload W101 199 (hb hy at_197) rfl rfl <| o_iconst W101 (v := 2) 200 (hb hy at_199) rfl rfl <| o_icmpY W101 212 (hb hy at_200) (XT.ii_le_t (by decide)) (by decide) rfl <| o_aload W101 214 (hb hy at_212) rfl rfl rfl <| o_iload W101 216 (hb hy at_214) rfl rfl <| o_iconst W101 (v := 2) 217 (hb hy at_216) rfl rfl ?_
      refine o_iadd W101 (v := 2) 218 (hb hy at_217) (by decide) rfl <| o_iload W101 220 (hb hy at_218) rfl rfl <| o_iadd W101 (v := 4) 221 (hb hy at_220) (by decide) rfl <| o_bipush W101 (v := 62) 223 (hb hy at_221) (by decide) rfl ?_
      refine o_stC W101 V101 (i := 4) (x' := (62 : Int32)) (by decide) (by decide) (by decide) (Nat.lt_of_sub_eq_succ rfl) (by decide) (vs' := [(.int 60), (.int 47), (.int (p0 &&& 255)), (.int (p1 &&& 255)), (.int 62)]) rfl gz97 (Or.inr gb97) (fun _ R => IW.wr R (Safe.arv W101.al V101 (by decide)) W101.inv) 224 (hb hy at_223) rfl ?_
      intro T102 h102 lo102 W102 R102 V102
      refine o_new W102 (w1 hw) (w2 hw) (w3 hw) (fun _ E => IW.ext E W102.inv) 227 (hb hy at_224) rfl (cells' := 5) (slots' := 17) rfl rfl (by decide) (by decide) ?_
      intro b103 T103 h103 W103 E103 ge103 gz103 gb103 A103 D103
      have Fb103_value : Fld Z h103 b103 s0 "value" "[B" .null := D103 (Or.inr (w16 hw)) (ty := (.array .byte)) (by decide)
      have Fb103_coder : Fld Z h103 b103 s0 "coder" "B" iZ := D103 (Or.inr (w17 hw)) (ty := .byte) (by decide)
      refine o_dup W103 228 (hb hy at_227) rfl rfl <| o_aload W103 230 (hb hy at_228) rfl rfl rfl ?_
      have c104 := (V102.ext E103)
      have ok105 : own_ok [(60 : Int32), (47 : Int32), (p0 &&& 255), (p1 &&& 255), (62 : Int32)] := ⟨by simp only [List.mem_cons, List.not_mem_nil, or_false, forall_eq_or_imp, forall_eq, false_imp_iff, implies_true]; exact ⟨(by unfold own_b; decide), (by unfold own_b; decide), (own_b255 _), (own_b255 _), (by unfold own_b; decide)⟩, Nat.le_of_ble_eq_true rfl⟩
      have sf106 := own_safeS (EL := consts_1) W103.al A103 Fb103_value
      refine o_special W103 (y := mn1) rfl (w4 hw) (w5 hw) (w6 hw) (by decide) (a := b103) (argsL := [(.ref b97)]) (StrChars.Road.backV (W := 1) W103.2.2.2.1 (own_hV hw) (kI := 4) (w2 hw) (cs := [(60 : Int32), (47 : Int32), (p0 &&& 255), (p1 &&& 255), (62 : Int32)]) (bs := [((60 : Int32)).toInt8.toInt32, ((47 : Int32)).toInt8.toInt32, ((p0 &&& 255)).toInt8.toInt32, ((p1 &&& 255)).toInt8.toInt32, ((62 : Int32)).toInt8.toInt32]) (n := 5) (n0 := Z.heap.size) gz103 W103.zs A103 Fb103_value Fb103_coder c104 (SgCS.ext W103.ox) NgCS rfl rfl (by decide) (by decide) ok105.1 rfl (by decide) (by decide)) (by rw [hml]; rfl) (lenOf pd1 rfl) (S := [(.ref b103)]) rfl (by exact Nat.le_of_eq rfl) 233 (hb hy at_230) rfl (cells' := 6) (slots' := 22) rfl rfl (by decide) (by decide) (wy := [b103]) (fun _ _ _ q => ⟨q.2.1, q.2.2.1⟩) (allS ⟨gz103, (Or.inr gb103)⟩ all0) (fun _ K => IW.keep K (sfS sf106 sf0) W103.inv) ?_
      intro v107 T107 h107 lo107 W107 K107 q107
      obtain ⟨rfl, -, -, X107, Fc107, t107, kb107, gz107, ge107, -, Fv107, A107⟩ := q107
      have B107 : Arv Z h107 t107 kb107 .byte 5 [(.int (b8 60)), (.int (b8 47)), (.int (b8 (p0 &&& 255))), (.int (b8 (p1 &&& 255))), (.int (b8 62))] iZ := A107
      show Gl _ _ _ _ _ _ _ _ [(.ref b103)]
      refine o_astore W107 (L' := #[vi p0, vi p1, vi p2, vi p3, vi p4, vi 2, vi 0, vi (p0 &&& 255), vi (p1 &&& 255), vi (p2 &&& 255), vi (p3 &&& 255), vr b89, vr b92, vi 0, vr b97, vr b103, un, un, un]) 235 (hb hy at_233) rfl rfl rfl <| o_iconst W107 (v := 0) 236 (hb hy at_235) rfl rfl ?_
      refine o_newR W107 (w1 hw) (w33 hw) (fun _ E => IW.ext E W107.inv) (by decide) (cap := 0) (by decide) (by decide) 239 (hb hy at_236) rfl (cells' := 7) (slots' := 22) rfl rfl (by decide) (by decide) (vs := []) rfl ?_
      intro b108 T108 h108 k108 W108 E108 ge108 gz108 gb108 V108 O108
      refine o_astore W108 (L' := #[vi p0, vi p1, vi p2, vi p3, vi p4, vi 2, vi 0, vi (p0 &&& 255), vi (p1 &&& 255), vi (p2 &&& 255), vi (p3 &&& 255), vr b89, vr b92, vi 0, vr b97, vr b103, vr b108, un, un]) 241 (hb hy at_239) rfl rfl rfl ?_
      refine o_new W108 (w34 hw) (w35 hw) (w36 hw) (fun _ E => IW.ext E W108.inv) 244 (hb hy at_241) rfl (cells' := 8) (slots' := 23) rfl rfl (by decide) (by decide) ?_
      intro b109 T109 h109 W109 E109 ge109 gz109 gb109 A109 D109
      have Fb109_out : Fld Z h109 b109 s4 "out" s5 .null := D109 (Or.inr (w60 hw)) (ty := (.object s2)) (by decide)
      refine o_dup W109 245 (hb hy at_244) rfl rfl ?_
      refine o_specialC W109 rfl (w37 hw) (w38 hw) (w39 hw) (by decide) (w36 hw) (rm5 l hw gCS b109 h109 W109.old SgCS NgCS A109 Fb109_out gz109) 1 10 43 (by decide) (by rw [hml]; rfl) (lenOf pd3 rfl) [(.ref b109)] rfl rfl 248 (hb hy at_245) rfl rfl rfl (allS ⟨gz109, (Or.inr gb109)⟩ all0) (fun _ K => IW.keep K (sfS (Safe.exa W109.al A109 (by decide) (by decide)) sf0) W109.inv) ?_
      intro v110 T110 h110 lo110 W110 K110 q110
      obtain ⟨r1_110, r2_110, r3_110, P110_0, P110_1, P110_2, P110_3, P110_4, P110_5, P110_6, P110_7, rfl⟩ := q110.2.2
      show Gl _ _ _ _ _ _ _ _ [(.ref b109)]
      refine o_astore W110 (L' := #[vi p0, vi p1, vi p2, vi p3, vi p4, vi 2, vi 0, vi (p0 &&& 255), vi (p1 &&& 255), vi (p2 &&& 255), vi (p3 &&& 255), vr b89, vr b92, vi 0, vr b97, vr b103, vr b108, vr b109, un]) 250 (hb hy at_248) rfl rfl rfl <| o_iload W110 252 (hb hy at_250) rfl rfl <| o_ifY W110 268 (hb hy at_252) (XT.i0_eq_t (by decide)) (by decide) rfl <| o_aload W110 270 (hb hy at_268) rfl rfl rfl <| o_aload W110 272 (hb hy at_270) rfl rfl rfl ?_
      have c111 := ((((((X96.ext E97).wr R98).wr R99).wr R100).wr R101).wr R102)
      have c112 := (((c111.ext E103).keep K107).ext E108)
      have c113 := (((((((((((Fv96.ext E97).other R98 (Or.inl (own_ne X96.lt ge97))).other R99 (Or.inl (own_ne X96.lt ge97))).other R100 (Or.inl (own_ne X96.lt ge97))).other R101 (Or.inl (own_ne X96.lt ge97))).other R102 (Or.inl (own_ne X96.lt ge97))).ext E103).keep K107 (ninS (own_ne c111.lt ge103) nin0)).ext E108).ext E109).keep K110 (ninS (own_ne c112.lt ge109) nin0))
      have c114 := ((((((B96.ext E97).other R98 (own_ne B96.lt ge97)).other R99 (own_ne B96.lt ge97)).other R100 (own_ne B96.lt ge97)).other R101 (own_ne B96.lt ge97)).other R102 (own_ne B96.lt ge97))
      have c115 := (((c114.ext E103).keep K107 (ninS (own_ne c114.lt ge103) nin0)).ext E108)
      have c116 := (((((((((((B96.ext E97).other R98 (own_ne B96.lt ge97)).other R99 (own_ne B96.lt ge97)).other R100 (own_ne B96.lt ge97)).other R101 (own_ne B96.lt ge97)).other R102 (own_ne B96.lt ge97)).ext E103).keep K107 (ninS (own_ne c114.lt ge103) nin0)).ext E108).ext E109).keep K110 (ninS (own_ne c115.lt ge109) nin0))
      have c117 := (((((((((((Fc96.ext E97).other R98 (Or.inl (own_ne X96.lt ge97))).other R99 (Or.inl (own_ne X96.lt ge97))).other R100 (Or.inl (own_ne X96.lt ge97))).other R101 (Or.inl (own_ne X96.lt ge97))).other R102 (Or.inl (own_ne X96.lt ge97))).ext E103).keep K107 (ninS (own_ne c111.lt ge103) nin0)).ext E108).ext E109).keep K110 (ninS (own_ne c112.lt ge109) nin0))
      have c118 := ((c112.ext E109).keep K110)
      have c119 := (c115.ext E109)
      have c120 := (A109.keep K110)
      refine o_virtualW W110 (y := mn17) (z := mn17) (w61 hw) (w62 hw) (o_nf W110 rfl (w64 hw)) (w64 hw) (w63 hw) (by decide) c120 (argsL := [(.ref b92)]) (CtrW.back (Wd := 0) W110 (rm69 l hw gCS b109 b92 r1_110 r2_110 r3_110 t96 kb96 (p0 &&& 255) (p1 &&& 255) h110 W110.old P110_2 P110_3 SgCS NgCS P110_6 P110_4 P110_7 P110_5 (Nat.le_trans W109.zs P110_1) (Nat.le_trans W109.zs P110_0) c118 c113 c116 (own_ne' c119.lt P110_1) c117) (w65 hw) (w36 hw) (by decide) (by decide) (own_EL hw)) (by rw [hml]; rfl) (lenOf pd15 rfl) (S := []) rfl (by exact Nat.le_of_eq rfl) 275 (hb hy at_272) rfl (cells' := 12) (slots' := 55) rfl rfl (by decide) (by decide) (wy := [r2_110, r1_110]) qf (allS ⟨(Nat.le_trans W109.zs P110_1), (Or.inr (Nat.le_trans W109.keep.1 P110_1))⟩ (allS ⟨(Nat.le_trans W109.zs P110_0), (Or.inr (Nat.le_trans W109.keep.1 P110_0))⟩ all0))  ?_
      intro v121 T121 h121 V121 lo121 W121 K121 C121 q121
      obtain ⟨P121_0, P121_1, P121_2, P121_3, rfl⟩ := q121.2.2
      show Gl _ _ _ _ _ _ _ _ [(.ref b109)]
      refine o_astore W121 (L' := #[vi p0, vi p1, vi p2, vi p3, vi p4, vi 2, vi 0, vi (p0 &&& 255), vi (p1 &&& 255), vi (p2 &&& 255), vi (p3 &&& 255), vr b89, vr b92, vi 0, vr b97, vr b103, vr b108, vr b109, vr b109]) 277 (hb hy at_275) rfl rfl rfl <| o_aload W121 279 (hb hy at_277) rfl rfl rfl <| o_aload W121 281 (hb hy at_279) rfl rfl rfl ?_
      refine o_acmpY W121 286 (hb hy at_281) rfl rfl (XT.aa_eq_t rfl) (by decide) rfl ?_
      refine o_aload W121 288 (hb hy at_286) rfl rfl rfl <| o_aload W121 290 (hb hy at_288) rfl rfl rfl ?_
      have c122 := (P110_2.keep K121 (ninS (own_ne A109.lt P110_1) (ninS (own_ne A109.lt P110_0) nin0)))
      have c123 := (P110_3.keep K121)
      have c124 := (c120.keep K121)
      refine o_virtualC W121 (w132 hw) (w133 hw) (o_nf W121 rfl (w135 hw)) (w135 hw) (w134 hw) (by decide) c124 (w136 hw) (w36 hw) (rm79 l hw gCS b109 r1_110 r2_110 r3_110 (b8 60) (b8 47) (b8 (p0 &&& 255)) (b8 (p1 &&& 255)) h121 W121.old c122 c123 P121_1 P121_0 SgCS NgCS P121_3 P121_2) 1 14 64 (by decide) (by rw [hml]; rfl) (lenOf pd22 rfl) [(.ref b103)] rfl rfl 293 (hb hy at_290) rfl rfl rfl all0 (fun _ K => IW.keep K sf0 W121.inv) ?_
      intro v125 T125 h125 lo125 W125 K125 q125
      obtain ⟨r1_125, r2_125, r3_125, P125_0, P125_1, P125_2, P125_3, P125_4, P125_5, rfl⟩ := q125.2.2
      show Gl _ _ _ _ _ _ _ _ [(.ref r1_125), (.ref b103)]
      have c126 := (X107.ext E108)
      have c127 := (c126.ext E109)
      have c128 := (((((Fc107.ext E108).ext E109).keep K110 (ninS (own_ne c126.lt ge109) nin0)).keep K121 (ninS (own_ne c127.lt P110_1) (ninS (own_ne c127.lt P110_0) nin0))).keep K125 nin0)
      have c129 := (((((Fv107.ext E108).ext E109).keep K110 (ninS (own_ne c126.lt ge109) nin0)).keep K121 (ninS (own_ne c127.lt P110_1) (ninS (own_ne c127.lt P110_0) nin0))).keep K125 nin0)
      have c130 := (B107.ext E108)
      have c131 := (c130.ext E109)
      have c132 := (((((B107.ext E108).ext E109).keep K110 (ninS (own_ne c130.lt ge109) nin0)).keep K121 (ninS (own_ne c131.lt P110_1) (ninS (own_ne c131.lt P110_0) nin0))).keep K125 nin0)
      have c133 := (((c127.keep K110).keep K121).keep K125)
      have c134 := ((c127.keep K110).keep K121)
      refine o_virtualC W125 (w178 hw) (w179 hw) (o_nf W125 rfl (w181 hw)) (w181 hw) (w180 hw) (by decide) c133 (w182 hw) (w3 hw) (rm81 l hw gCS b103 r1_125 t107 r2_125 kb107 (p0 &&& 255) (p1 &&& 255) r3_125 (b8 60) (b8 47) (b8 (p0 &&& 255)) (b8 (p1 &&& 255)) h125 W125.old c133 P125_2 (own_ne c134.lt P125_0) SgCS NgCS c128 P125_4 c129 P125_3 c132 P125_5 rfl rfl rfl rfl) 0 14 64 (by decide) (by rw [hml]; rfl) (lenOf pd24 rfl) [] rfl rfl 296 (hb hy at_293) rfl rfl rfl all0 (fun _ K => IW.keep K sf0 W125.inv) ?_
      intro v135 T135 h135 lo135 W135 K135 q135
      obtain rfl := q135.2.2
      show Gl _ _ _ _ _ _ _ _ [(.int 1)]
      exact o_retNW W135 (own_EL hw) hlk (t := .boolean) hret (by simp) (z' := (1 : Int32)) (by decide) (hb hy at_296) (by decide) (by decide) rfl
    · rw [ek1]
      refine o_iload W0 56 (hb hy at_54) rfl rfl ?_
      refine o_newP W0 (aty := .char) (w0 hw) (fun _ E => IW.ext E W0.inv) (by decide) (cap := 3) (by decide) (by decide) 58 (hb hy at_56) rfl (cells' := 1) (slots' := 3) rfl rfl (by decide) (by decide) (vs := [iZ, iZ, iZ]) (dv := iZ) rfl rfl ?_
      intro b136 T136 h136 k136 W136 E136 ge136 gz136 gb136 V136
      refine o_astore W136 (L' := #[vi p0, vi p1, vi p2, vi p3, vi p4, vi 3, vi 0, vi (p0 &&& 255), vi (p1 &&& 255), vi (p2 &&& 255), vi (p3 &&& 255), vr b136, un, un, un, un, un, un, un]) 60 (hb hy at_58) rfl rfl rfl <| o_iload W136 62 (hb hy at_60) rfl rfl <| o_ifN W136 65 (hb hy at_62) (XT.i0_le_f (by decide)) rfl <| o_aload W136 67 (hb hy at_65) rfl rfl rfl <| o_iconst W136 (v := 0) 68 (hb hy at_67) rfl rfl <| o_iload W136 70 (hb hy at_68) rfl rfl ?_
      refine o_stC W136 V136 (i := 0) (x' := (p0 &&& 255)) (by decide) (by decide) (by decide) (Nat.lt_of_sub_eq_succ rfl) (own_i2c (own_b255 _)) (vs' := [(.int (p0 &&& 255)), iZ, iZ]) rfl gz136 (Or.inr gb136) (fun _ R => IW.wr R (Safe.arv W136.al V136 (by decide)) W136.inv) 71 (hb hy at_70) rfl ?_
      intro T137 h137 lo137 W137 R137 V137
      refine o_iload W137 73 (hb hy at_71) rfl rfl <| o_iconst W137 (v := 1) 74 (hb hy at_73) rfl rfl <| o_icmpN W137 77 (hb hy at_74) (XT.ii_le_f (by decide)) rfl <| o_aload W137 79 (hb hy at_77) rfl rfl rfl <| o_iconst W137 (v := 1) 80 (hb hy at_79) rfl rfl <| o_iload W137 82 (hb hy at_80) rfl rfl ?_
      refine o_stC W137 V137 (i := 1) (x' := (p1 &&& 255)) (by decide) (by decide) (by decide) (Nat.lt_of_sub_eq_succ rfl) (own_i2c (own_b255 _)) (vs' := [(.int (p0 &&& 255)), (.int (p1 &&& 255)), iZ]) rfl gz136 (Or.inr gb136) (fun _ R => IW.wr R (Safe.arv W137.al V137 (by decide)) W137.inv) 83 (hb hy at_82) rfl ?_
      intro T138 h138 lo138 W138 R138 V138
      refine o_iload W138 85 (hb hy at_83) rfl rfl <| o_iconst W138 (v := 2) 86 (hb hy at_85) rfl rfl <| o_icmpN W138 89 (hb hy at_86) (XT.ii_le_f (by decide)) rfl <| o_aload W138 91 (hb hy at_89) rfl rfl rfl <| o_iconst W138 (v := 2) 92 (hb hy at_91) rfl rfl <| o_iload W138 94 (hb hy at_92) rfl rfl ?_
      refine o_stC W138 V138 (i := 2) (x' := (p2 &&& 255)) (by decide) (by decide) (by decide) (Nat.lt_of_sub_eq_succ rfl) (own_i2c (own_b255 _)) (vs' := [(.int (p0 &&& 255)), (.int (p1 &&& 255)), (.int (p2 &&& 255))]) rfl gz136 (Or.inr gb136) (fun _ R => IW.wr R (Safe.arv W138.al V138 (by decide)) W138.inv) 95 (hb hy at_94) rfl ?_
      intro T139 h139 lo139 W139 R139 V139
      refine o_new W139 (w1 hw) (w2 hw) (w3 hw) (fun _ E => IW.ext E W139.inv) 98 (hb hy at_95) rfl (cells' := 2) (slots' := 7) rfl rfl (by decide) (by decide) ?_
      intro b140 T140 h140 W140 E140 ge140 gz140 gb140 A140 D140
      have Fb140_value : Fld Z h140 b140 s0 "value" "[B" .null := D140 (Or.inr (w16 hw)) (ty := (.array .byte)) (by decide)
      have Fb140_coder : Fld Z h140 b140 s0 "coder" "B" iZ := D140 (Or.inr (w17 hw)) (ty := .byte) (by decide)
      refine o_dup W140 99 (hb hy at_98) rfl rfl <| o_aload W140 101 (hb hy at_99) rfl rfl rfl ?_
      have c141 := (V139.ext E140)
      have ok142 : own_ok [(p0 &&& 255), (p1 &&& 255), (p2 &&& 255)] := ⟨by simp only [List.mem_cons, List.not_mem_nil, or_false, forall_eq_or_imp, forall_eq, false_imp_iff, implies_true]; exact ⟨(own_b255 _), (own_b255 _), (own_b255 _)⟩, Nat.le_of_ble_eq_true rfl⟩
      have sf143 := own_safeS (EL := consts_1) W140.al A140 Fb140_value
      refine o_special W140 (y := mn1) rfl (w4 hw) (w5 hw) (w6 hw) (by decide) (a := b140) (argsL := [(.ref b136)]) (StrChars.Road.backV (W := 1) W140.2.2.2.1 (own_hV hw) (kI := 4) (w2 hw) (cs := [(p0 &&& 255), (p1 &&& 255), (p2 &&& 255)]) (bs := [((p0 &&& 255)).toInt8.toInt32, ((p1 &&& 255)).toInt8.toInt32, ((p2 &&& 255)).toInt8.toInt32]) (n := 3) (n0 := Z.heap.size) gz140 W140.zs A140 Fb140_value Fb140_coder c141 (SgCS.ext W140.ox) NgCS rfl rfl (by decide) (by decide) ok142.1 rfl (by decide) (by decide)) (by rw [hml]; rfl) (lenOf pd1 rfl) (S := [(.ref b140)]) rfl (by exact Nat.le_of_eq rfl) 104 (hb hy at_101) rfl (cells' := 3) (slots' := 10) rfl rfl (by decide) (by decide) (wy := [b140]) (fun _ _ _ q => ⟨q.2.1, q.2.2.1⟩) (allS ⟨gz140, (Or.inr gb140)⟩ all0) (fun _ K => IW.keep K (sfS sf143 sf0) W140.inv) ?_
      intro v144 T144 h144 lo144 W144 K144 q144
      obtain ⟨rfl, -, -, X144, Fc144, t144, kb144, gz144, ge144, -, Fv144, A144⟩ := q144
      have B144 : Arv Z h144 t144 kb144 .byte 3 [(.int (b8 (p0 &&& 255))), (.int (b8 (p1 &&& 255))), (.int (b8 (p2 &&& 255)))] iZ := A144
      show Gl _ _ _ _ _ _ _ _ [(.ref b140)]
      refine o_astore W144 (L' := #[vi p0, vi p1, vi p2, vi p3, vi p4, vi 3, vi 0, vi (p0 &&& 255), vi (p1 &&& 255), vi (p2 &&& 255), vi (p3 &&& 255), vr b136, vr b140, un, un, un, un, un, un]) 106 (hb hy at_104) rfl rfl rfl <| o_iload W144 108 (hb hy at_106) rfl rfl <| o_ifY W144 115 (hb hy at_108) (XT.i0_eq_t (by decide)) (by decide) rfl <| o_iconst W144 (v := 0) 116 (hb hy at_115) rfl rfl <| o_istore W144 (L' := #[vi p0, vi p1, vi p2, vi p3, vi p4, vi 3, vi 0, vi (p0 &&& 255), vi (p1 &&& 255), vi (p2 &&& 255), vi (p3 &&& 255), vr b136, vr b140, vi 0, un, un, un, un, un]) 118 (hb hy at_116) rfl rfl <| o_iload W144 120 (hb hy at_118) rfl rfl ?_
      refine o_iload W144 122 (hb hy at_120) rfl rfl <| o_iadd W144 (v := 3) 123 (hb hy at_122) (by decide) rfl <| o_iconst W144 (v := 3) 124 (hb hy at_123) rfl rfl <| o_iadd W144 (v := 6) 125 (hb hy at_124) (by decide) rfl ?_
      refine o_newP W144 (aty := .char) (w0 hw) (fun _ E => IW.ext E W144.inv) (by decide) (cap := 6) (by decide) (by decide) 127 (hb hy at_125) rfl (cells' := 4) (slots' := 16) rfl rfl (by decide) (by decide) (vs := [iZ, iZ, iZ, iZ, iZ, iZ]) (dv := iZ) rfl rfl ?_
      intro b145 T145 h145 k145 W145 E145 ge145 gz145 gb145 V145
      refine o_astore W145 (L' := #[vi p0, vi p1, vi p2, vi p3, vi p4, vi 3, vi 0, vi (p0 &&& 255), vi (p1 &&& 255), vi (p2 &&& 255), vi (p3 &&& 255), vr b136, vr b140, vi 0, vr b145, un, un, un, un]) 129 (hb hy at_127) rfl rfl rfl <| o_iload W145 131 (hb hy at_129) rfl rfl <| o_ifY W145 152 (hb hy at_131) (XT.i0_eq_t (by decide)) (by decide) rfl <| o_aload W145 154 (hb hy at_152) rfl rfl rfl <| o_iload W145 156 (hb hy at_154) rfl rfl <| o_bipush W145 (v := 60) 158 (hb hy at_156) (by decide) rfl ?_
      refine o_stC W145 V145 (i := 0) (x' := (60 : Int32)) (by decide) (by decide) (by decide) (Nat.lt_of_sub_eq_succ rfl) (by decide) (vs' := [(.int 60), iZ, iZ, iZ, iZ, iZ]) rfl gz145 (Or.inr gb145) (fun _ R => IW.wr R (Safe.arv W145.al V145 (by decide)) W145.inv) 159 (hb hy at_158) rfl ?_
      intro T146 h146 lo146 W146 R146 V146
      refine o_aload W146 161 (hb hy at_159) rfl rfl rfl <| o_iload W146 163 (hb hy at_161) rfl rfl <| o_iconst W146 (v := 1) 164 (hb hy at_163) rfl rfl <| o_iadd W146 (v := 1) 165 (hb hy at_164) (by decide) rfl <| o_bipush W146 (v := 47) 167 (hb hy at_165) (by decide) rfl ?_
      refine o_stC W146 V146 (i := 1) (x' := (47 : Int32)) (by decide) (by decide) (by decide) (Nat.lt_of_sub_eq_succ rfl) (by decide) (vs' := [(.int 60), (.int 47), iZ, iZ, iZ, iZ]) rfl gz145 (Or.inr gb145) (fun _ R => IW.wr R (Safe.arv W146.al V146 (by decide)) W146.inv) 168 (hb hy at_167) rfl ?_
      intro T147 h147 lo147 W147 R147 V147
      refine o_iload W147 170 (hb hy at_168) rfl rfl <| o_ifN W147 173 (hb hy at_170) (XT.i0_le_f (by decide)) rfl <| o_aload W147 175 (hb hy at_173) rfl rfl rfl <| o_iload W147 177 (hb hy at_175) rfl rfl <| o_iconst W147 (v := 2) 178 (hb hy at_177) rfl rfl <| o_iadd W147 (v := 2) 179 (hb hy at_178) (by decide) rfl ?_
      refine o_iload W147 181 (hb hy at_179) rfl rfl ?_
      refine o_stC W147 V147 (i := 2) (x' := (p0 &&& 255)) (by decide) (by decide) (by decide) (Nat.lt_of_sub_eq_succ rfl) (own_i2c (own_b255 _)) (vs' := [(.int 60), (.int 47), (.int (p0 &&& 255)), iZ, iZ, iZ]) rfl gz145 (Or.inr gb145) (fun _ R => IW.wr R (Safe.arv W147.al V147 (by decide)) W147.inv) 182 (hb hy at_181) rfl ?_
      intro T148 h148 lo148 W148 R148 V148
      refine o_iload W148 184 (hb hy at_182) rfl rfl <| o_iconst W148 (v := 1) 185 (hb hy at_184) rfl rfl <| o_icmpN W148 188 (hb hy at_185) (XT.ii_le_f (by decide)) rfl <| o_aload W148 190 (hb hy at_188) rfl rfl rfl <| o_iload W148 192 (hb hy at_190) rfl rfl <| o_iconst W148 (v := 3) 193 (hb hy at_192) rfl rfl ?_
      refine o_iadd W148 (v := 3) 194 (hb hy at_193) (by decide) rfl <| o_iload W148 196 (hb hy at_194) rfl rfl ?_
      refine o_stC W148 V148 (i := 3) (x' := (p1 &&& 255)) (by decide) (by decide) (by decide) (Nat.lt_of_sub_eq_succ rfl) (own_i2c (own_b255 _)) (vs' := [(.int 60), (.int 47), (.int (p0 &&& 255)), (.int (p1 &&& 255)), iZ, iZ]) rfl gz145 (Or.inr gb145) (fun _ R => IW.wr R (Safe.arv W148.al V148 (by decide)) W148.inv) 197 (hb hy at_196) rfl ?_
      intro T149 h149 lo149 W149 R149 V149
      refine o_iload W149 199 (hb hy at_197) rfl rfl <| o_iconst W149 (v := 2) 200 (hb hy at_199) rfl rfl <| o_icmpN W149 203 (hb hy at_200) (XT.ii_le_f (by decide)) rfl <| o_aload W149 205 (hb hy at_203) rfl rfl rfl <| o_iload W149 207 (hb hy at_205) rfl rfl <| o_iconst W149 (v := 4) 208 (hb hy at_207) rfl rfl ?_
      refine o_iadd W149 (v := 4) 209 (hb hy at_208) (by decide) rfl <| o_iload W149 211 (hb hy at_209) rfl rfl ?_
      refine o_stC W149 V149 (i := 4) (x' := (p2 &&& 255)) (by decide) (by decide) (by decide) (Nat.lt_of_sub_eq_succ rfl) (own_i2c (own_b255 _)) (vs' := [(.int 60), (.int 47), (.int (p0 &&& 255)), (.int (p1 &&& 255)), (.int (p2 &&& 255)), iZ]) rfl gz145 (Or.inr gb145) (fun _ R => IW.wr R (Safe.arv W149.al V149 (by decide)) W149.inv) 212 (hb hy at_211) rfl ?_
      intro T150 h150 lo150 W150 R150 V150
      refine o_aload W150 214 (hb hy at_212) rfl rfl rfl <| o_iload W150 216 (hb hy at_214) rfl rfl <| o_iconst W150 (v := 2) 217 (hb hy at_216) rfl rfl <| o_iadd W150 (v := 2) 218 (hb hy at_217) (by decide) rfl <| o_iload W150 220 (hb hy at_218) rfl rfl <| o_iadd W150 (v := 5) 221 (hb hy at_220) (by decide) rfl ?_
      refine o_bipush W150 (v := 62) 223 (hb hy at_221) (by decide) rfl ?_
      refine o_stC W150 V150 (i := 5) (x' := (62 : Int32)) (by decide) (by decide) (by decide) (Nat.lt_of_sub_eq_succ rfl) (by decide) (vs' := [(.int 60), (.int 47), (.int (p0 &&& 255)), (.int (p1 &&& 255)), (.int (p2 &&& 255)), (.int 62)]) rfl gz145 (Or.inr gb145) (fun _ R => IW.wr R (Safe.arv W150.al V150 (by decide)) W150.inv) 224 (hb hy at_223) rfl ?_
      intro T151 h151 lo151 W151 R151 V151
      refine o_new W151 (w1 hw) (w2 hw) (w3 hw) (fun _ E => IW.ext E W151.inv) 227 (hb hy at_224) rfl (cells' := 5) (slots' := 20) rfl rfl (by decide) (by decide) ?_
      intro b152 T152 h152 W152 E152 ge152 gz152 gb152 A152 D152
      have Fb152_value : Fld Z h152 b152 s0 "value" "[B" .null := D152 (Or.inr (w16 hw)) (ty := (.array .byte)) (by decide)
      have Fb152_coder : Fld Z h152 b152 s0 "coder" "B" iZ := D152 (Or.inr (w17 hw)) (ty := .byte) (by decide)
      refine o_dup W152 228 (hb hy at_227) rfl rfl <| o_aload W152 230 (hb hy at_228) rfl rfl rfl ?_
      have c153 := (V151.ext E152)
      have ok154 : own_ok [(60 : Int32), (47 : Int32), (p0 &&& 255), (p1 &&& 255), (p2 &&& 255), (62 : Int32)] := ⟨by simp only [List.mem_cons, List.not_mem_nil, or_false, forall_eq_or_imp, forall_eq, false_imp_iff, implies_true]; exact ⟨(by unfold own_b; decide), (by unfold own_b; decide), (own_b255 _), (own_b255 _), (own_b255 _), (by unfold own_b; decide)⟩, Nat.le_of_ble_eq_true rfl⟩
      have sf155 := own_safeS (EL := consts_1) W152.al A152 Fb152_value
      refine o_special W152 (y := mn1) rfl (w4 hw) (w5 hw) (w6 hw) (by decide) (a := b152) (argsL := [(.ref b145)]) (StrChars.Road.backV (W := 1) W152.2.2.2.1 (own_hV hw) (kI := 4) (w2 hw) (cs := [(60 : Int32), (47 : Int32), (p0 &&& 255), (p1 &&& 255), (p2 &&& 255), (62 : Int32)]) (bs := [((60 : Int32)).toInt8.toInt32, ((47 : Int32)).toInt8.toInt32, ((p0 &&& 255)).toInt8.toInt32, ((p1 &&& 255)).toInt8.toInt32, ((p2 &&& 255)).toInt8.toInt32, ((62 : Int32)).toInt8.toInt32]) (n := 6) (n0 := Z.heap.size) gz152 W152.zs A152 Fb152_value Fb152_coder c153 (SgCS.ext W152.ox) NgCS rfl rfl (by decide) (by decide) ok154.1 rfl (by decide) (by decide)) (by rw [hml]; rfl) (lenOf pd1 rfl) (S := [(.ref b152)]) rfl (by exact Nat.le_of_eq rfl) 233 (hb hy at_230) rfl (cells' := 6) (slots' := 26) rfl rfl (by decide) (by decide) (wy := [b152]) (fun _ _ _ q => ⟨q.2.1, q.2.2.1⟩) (allS ⟨gz152, (Or.inr gb152)⟩ all0) (fun _ K => IW.keep K (sfS sf155 sf0) W152.inv) ?_
      intro v156 T156 h156 lo156 W156 K156 q156
      obtain ⟨rfl, -, -, X156, Fc156, t156, kb156, gz156, ge156, -, Fv156, A156⟩ := q156
      have B156 : Arv Z h156 t156 kb156 .byte 6 [(.int (b8 60)), (.int (b8 47)), (.int (b8 (p0 &&& 255))), (.int (b8 (p1 &&& 255))), (.int (b8 (p2 &&& 255))), (.int (b8 62))] iZ := A156
      show Gl _ _ _ _ _ _ _ _ [(.ref b152)]
      refine o_astore W156 (L' := #[vi p0, vi p1, vi p2, vi p3, vi p4, vi 3, vi 0, vi (p0 &&& 255), vi (p1 &&& 255), vi (p2 &&& 255), vi (p3 &&& 255), vr b136, vr b140, vi 0, vr b145, vr b152, un, un, un]) 235 (hb hy at_233) rfl rfl rfl <| o_iconst W156 (v := 0) 236 (hb hy at_235) rfl rfl ?_
      refine o_newR W156 (w1 hw) (w33 hw) (fun _ E => IW.ext E W156.inv) (by decide) (cap := 0) (by decide) (by decide) 239 (hb hy at_236) rfl (cells' := 7) (slots' := 26) rfl rfl (by decide) (by decide) (vs := []) rfl ?_
      intro b157 T157 h157 k157 W157 E157 ge157 gz157 gb157 V157 O157
      refine o_astore W157 (L' := #[vi p0, vi p1, vi p2, vi p3, vi p4, vi 3, vi 0, vi (p0 &&& 255), vi (p1 &&& 255), vi (p2 &&& 255), vi (p3 &&& 255), vr b136, vr b140, vi 0, vr b145, vr b152, vr b157, un, un]) 241 (hb hy at_239) rfl rfl rfl ?_
      refine o_new W157 (w34 hw) (w35 hw) (w36 hw) (fun _ E => IW.ext E W157.inv) 244 (hb hy at_241) rfl (cells' := 8) (slots' := 27) rfl rfl (by decide) (by decide) ?_
      intro b158 T158 h158 W158 E158 ge158 gz158 gb158 A158 D158
      have Fb158_out : Fld Z h158 b158 s4 "out" s5 .null := D158 (Or.inr (w60 hw)) (ty := (.object s2)) (by decide)
      refine o_dup W158 245 (hb hy at_244) rfl rfl ?_
      refine o_specialC W158 rfl (w37 hw) (w38 hw) (w39 hw) (by decide) (w36 hw) (rm5 l hw gCS b158 h158 W158.old SgCS NgCS A158 Fb158_out gz158) 1 10 47 (by decide) (by rw [hml]; rfl) (lenOf pd3 rfl) [(.ref b158)] rfl rfl 248 (hb hy at_245) rfl rfl rfl (allS ⟨gz158, (Or.inr gb158)⟩ all0) (fun _ K => IW.keep K (sfS (Safe.exa W158.al A158 (by decide) (by decide)) sf0) W158.inv) ?_
      intro v159 T159 h159 lo159 W159 K159 q159
      obtain ⟨r1_159, r2_159, r3_159, P159_0, P159_1, P159_2, P159_3, P159_4, P159_5, P159_6, P159_7, rfl⟩ := q159.2.2
      show Gl _ _ _ _ _ _ _ _ [(.ref b158)]
      refine o_astore W159 (L' := #[vi p0, vi p1, vi p2, vi p3, vi p4, vi 3, vi 0, vi (p0 &&& 255), vi (p1 &&& 255), vi (p2 &&& 255), vi (p3 &&& 255), vr b136, vr b140, vi 0, vr b145, vr b152, vr b157, vr b158, un]) 250 (hb hy at_248) rfl rfl rfl <| o_iload W159 252 (hb hy at_250) rfl rfl <| o_ifY W159 268 (hb hy at_252) (XT.i0_eq_t (by decide)) (by decide) rfl <| o_aload W159 270 (hb hy at_268) rfl rfl rfl <| o_aload W159 272 (hb hy at_270) rfl rfl rfl ?_
      have c160 := (((((((X144.ext E145).wr R146).wr R147).wr R148).wr R149).wr R150).wr R151)
      have c161 := (((c160.ext E152).keep K156).ext E157)
      have c162 := ((((((((((((Fv144.ext E145).other R146 (Or.inl (own_ne X144.lt ge145))).other R147 (Or.inl (own_ne X144.lt ge145))).other R148 (Or.inl (own_ne X144.lt ge145))).other R149 (Or.inl (own_ne X144.lt ge145))).other R150 (Or.inl (own_ne X144.lt ge145))).other R151 (Or.inl (own_ne X144.lt ge145))).ext E152).keep K156 (ninS (own_ne c160.lt ge152) nin0)).ext E157).ext E158).keep K159 (ninS (own_ne c161.lt ge158) nin0))
      have c163 := (((((((B144.ext E145).other R146 (own_ne B144.lt ge145)).other R147 (own_ne B144.lt ge145)).other R148 (own_ne B144.lt ge145)).other R149 (own_ne B144.lt ge145)).other R150 (own_ne B144.lt ge145)).other R151 (own_ne B144.lt ge145))
      have c164 := (((c163.ext E152).keep K156 (ninS (own_ne c163.lt ge152) nin0)).ext E157)
      have c165 := ((((((((((((B144.ext E145).other R146 (own_ne B144.lt ge145)).other R147 (own_ne B144.lt ge145)).other R148 (own_ne B144.lt ge145)).other R149 (own_ne B144.lt ge145)).other R150 (own_ne B144.lt ge145)).other R151 (own_ne B144.lt ge145)).ext E152).keep K156 (ninS (own_ne c163.lt ge152) nin0)).ext E157).ext E158).keep K159 (ninS (own_ne c164.lt ge158) nin0))
      have c166 := ((((((((((((Fc144.ext E145).other R146 (Or.inl (own_ne X144.lt ge145))).other R147 (Or.inl (own_ne X144.lt ge145))).other R148 (Or.inl (own_ne X144.lt ge145))).other R149 (Or.inl (own_ne X144.lt ge145))).other R150 (Or.inl (own_ne X144.lt ge145))).other R151 (Or.inl (own_ne X144.lt ge145))).ext E152).keep K156 (ninS (own_ne c160.lt ge152) nin0)).ext E157).ext E158).keep K159 (ninS (own_ne c161.lt ge158) nin0))
      have c167 := ((c161.ext E158).keep K159)
      have c168 := (c164.ext E158)
      have c169 := (A158.keep K159)
      refine o_virtualW W159 (y := mn17) (z := mn17) (w61 hw) (w62 hw) (o_nf W159 rfl (w64 hw)) (w64 hw) (w63 hw) (by decide) c169 (argsL := [(.ref b140)]) (CtrW.back (Wd := 0) W159 (rm91 l hw gCS b158 b140 r1_159 r2_159 r3_159 t144 kb144 (p0 &&& 255) (p1 &&& 255) (p2 &&& 255) h159 W159.old P159_2 P159_3 SgCS NgCS P159_6 P159_4 P159_7 P159_5 (Nat.le_trans W158.zs P159_1) (Nat.le_trans W158.zs P159_0) c167 c162 c165 (own_ne' c168.lt P159_1) c166) (w65 hw) (w36 hw) (by decide) (by decide) (own_EL hw)) (by rw [hml]; rfl) (lenOf pd15 rfl) (S := []) rfl (by exact Nat.le_of_eq rfl) 275 (hb hy at_272) rfl (cells' := 12) (slots' := 59) rfl rfl (by decide) (by decide) (wy := [r2_159, r1_159]) qf (allS ⟨(Nat.le_trans W158.zs P159_1), (Or.inr (Nat.le_trans W158.keep.1 P159_1))⟩ (allS ⟨(Nat.le_trans W158.zs P159_0), (Or.inr (Nat.le_trans W158.keep.1 P159_0))⟩ all0))  ?_
      intro v170 T170 h170 V170 lo170 W170 K170 C170 q170
      obtain ⟨P170_0, P170_1, P170_2, P170_3, rfl⟩ := q170.2.2
      show Gl _ _ _ _ _ _ _ _ [(.ref b158)]
      refine o_astore W170 (L' := #[vi p0, vi p1, vi p2, vi p3, vi p4, vi 3, vi 0, vi (p0 &&& 255), vi (p1 &&& 255), vi (p2 &&& 255), vi (p3 &&& 255), vr b136, vr b140, vi 0, vr b145, vr b152, vr b157, vr b158, vr b158]) 277 (hb hy at_275) rfl rfl rfl <| o_aload W170 279 (hb hy at_277) rfl rfl rfl <| o_aload W170 281 (hb hy at_279) rfl rfl rfl ?_
      refine o_acmpY W170 286 (hb hy at_281) rfl rfl (XT.aa_eq_t rfl) (by decide) rfl ?_
      refine o_aload W170 288 (hb hy at_286) rfl rfl rfl <| o_aload W170 290 (hb hy at_288) rfl rfl rfl ?_
      have c171 := (P159_2.keep K170 (ninS (own_ne A158.lt P159_1) (ninS (own_ne A158.lt P159_0) nin0)))
      have c172 := (P159_3.keep K170)
      have c173 := (c169.keep K170)
      refine o_virtualC W170 (w132 hw) (w133 hw) (o_nf W170 rfl (w135 hw)) (w135 hw) (w134 hw) (by decide) c173 (w136 hw) (w36 hw) (rm101 l hw gCS b158 r1_159 r2_159 r3_159 (b8 60) (b8 47) (b8 (p0 &&& 255)) (b8 (p1 &&& 255)) (b8 (p2 &&& 255)) h170 W170.old c171 c172 P170_1 P170_0 SgCS NgCS P170_3 P170_2) 1 14 69 (by decide) (by rw [hml]; rfl) (lenOf pd22 rfl) [(.ref b152)] rfl rfl 293 (hb hy at_290) rfl rfl rfl all0 (fun _ K => IW.keep K sf0 W170.inv) ?_
      intro v174 T174 h174 lo174 W174 K174 q174
      obtain ⟨r1_174, r2_174, r3_174, P174_0, P174_1, P174_2, P174_3, P174_4, P174_5, rfl⟩ := q174.2.2
      show Gl _ _ _ _ _ _ _ _ [(.ref r1_174), (.ref b152)]
      have c175 := (X156.ext E157)
      have c176 := (c175.ext E158)
      have c177 := (((((Fc156.ext E157).ext E158).keep K159 (ninS (own_ne c175.lt ge158) nin0)).keep K170 (ninS (own_ne c176.lt P159_1) (ninS (own_ne c176.lt P159_0) nin0))).keep K174 nin0)
      have c178 := (((((Fv156.ext E157).ext E158).keep K159 (ninS (own_ne c175.lt ge158) nin0)).keep K170 (ninS (own_ne c176.lt P159_1) (ninS (own_ne c176.lt P159_0) nin0))).keep K174 nin0)
      have c179 := (B156.ext E157)
      have c180 := (c179.ext E158)
      have c181 := (((((B156.ext E157).ext E158).keep K159 (ninS (own_ne c179.lt ge158) nin0)).keep K170 (ninS (own_ne c180.lt P159_1) (ninS (own_ne c180.lt P159_0) nin0))).keep K174 nin0)
      have c182 := (((c176.keep K159).keep K170).keep K174)
      have c183 := ((c176.keep K159).keep K170)
      refine o_virtualC W174 (w178 hw) (w179 hw) (o_nf W174 rfl (w181 hw)) (w181 hw) (w180 hw) (by decide) c182 (w182 hw) (w3 hw) (rm103 l hw gCS b152 r1_174 t156 r2_174 kb156 (p0 &&& 255) (p1 &&& 255) (p2 &&& 255) r3_174 (b8 60) (b8 47) (b8 (p0 &&& 255)) (b8 (p1 &&& 255)) (b8 (p2 &&& 255)) h174 W174.old c182 P174_2 (own_ne c183.lt P174_0) SgCS NgCS c177 P174_4 c178 P174_3 c181 P174_5 rfl rfl rfl rfl rfl) 0 14 69 (by decide) (by rw [hml]; rfl) (lenOf pd24 rfl) [] rfl rfl 296 (hb hy at_293) rfl rfl rfl all0 (fun _ K => IW.keep K sf0 W174.inv) ?_
      intro v184 T184 h184 lo184 W184 K184 q184
      obtain rfl := q184.2.2
      show Gl _ _ _ _ _ _ _ _ [(.int 1)]
      exact o_retNW W184 (own_EL hw) hlk (t := .boolean) hret (by simp) (z' := (1 : Int32)) (by decide) (hb hy at_296) (by decide) (by decide) rfl
  · refine o_ifN W0 15 (hb hy at_12) (XT.i0_eq_f hf0) rfl <| o_iconst W0 (v := 1) 16 (hb hy at_15) rfl rfl <| o_goto W0 20 (hb hy at_16) (by decide) rfl <| o_istore W0 (L' := #[vi p0, vi p1, vi p2, vi p3, vi p4, vi (p4 &&& 3), vi 1, un, un, un, un, un, un, un, un, un, un, un, un]) 22 (hb hy at_20) rfl rfl <| o_iloadN W0 23 (hb hy at_22) rfl rfl <| o_sipush W0 (v := 255) 26 (hb hy at_23) (by decide) rfl ?_
    refine o_iand W0 (v := (p0 &&& 255)) 27 (hb hy at_26) rfl rfl <| o_i2c W0 (v := (p0 &&& 255)) 28 (hb hy at_27) (own_i2c (own_b255 _)) rfl <| o_istore W0 (L' := #[vi p0, vi p1, vi p2, vi p3, vi p4, vi (p4 &&& 3), vi 1, vi (p0 &&& 255), un, un, un, un, un, un, un, un, un, un, un]) 30 (hb hy at_28) rfl rfl <| o_iloadN W0 31 (hb hy at_30) rfl rfl <| o_sipush W0 (v := 255) 34 (hb hy at_31) (by decide) rfl <| o_iand W0 (v := (p1 &&& 255)) 35 (hb hy at_34) rfl rfl ?_
    refine o_i2c W0 (v := (p1 &&& 255)) 36 (hb hy at_35) (own_i2c (own_b255 _)) rfl <| o_istore W0 (L' := #[vi p0, vi p1, vi p2, vi p3, vi p4, vi (p4 &&& 3), vi 1, vi (p0 &&& 255), vi (p1 &&& 255), un, un, un, un, un, un, un, un, un, un]) 38 (hb hy at_36) rfl rfl <| o_iloadN W0 39 (hb hy at_38) rfl rfl <| o_sipush W0 (v := 255) 42 (hb hy at_39) (by decide) rfl <| o_iand W0 (v := (p2 &&& 255)) 43 (hb hy at_42) rfl rfl <| o_i2c W0 (v := (p2 &&& 255)) 44 (hb hy at_43) (own_i2c (own_b255 _)) rfl ?_
    refine o_istore W0 (L' := #[vi p0, vi p1, vi p2, vi p3, vi p4, vi (p4 &&& 3), vi 1, vi (p0 &&& 255), vi (p1 &&& 255), vi (p2 &&& 255), un, un, un, un, un, un, un, un, un]) 46 (hb hy at_44) rfl rfl <| o_iloadN W0 47 (hb hy at_46) rfl rfl <| o_sipush W0 (v := 255) 50 (hb hy at_47) (by decide) rfl <| o_iand W0 (v := (p3 &&& 255)) 51 (hb hy at_50) rfl rfl <| o_i2c W0 (v := (p3 &&& 255)) 52 (hb hy at_51) (own_i2c (own_b255 _)) rfl <| o_istore W0 (L' := #[vi p0, vi p1, vi p2, vi p3, vi p4, vi (p4 &&& 3), vi 1, vi (p0 &&& 255), vi (p1 &&& 255), vi (p2 &&& 255), vi (p3 &&& 255), un, un, un, un, un, un, un, un]) 54 (hb hy at_52) rfl rfl ?_
    rcases own_and3 p4 with ek185 | ek185 | ek185 | ek185
    · rw [ek185]
      refine o_iload W0 56 (hb hy at_54) rfl rfl ?_
      refine o_newP W0 (aty := .char) (w0 hw) (fun _ E => IW.ext E W0.inv) (by decide) (cap := 0) (by decide) (by decide) 58 (hb hy at_56) rfl (cells' := 1) (slots' := 0) rfl rfl (by decide) (by decide) (vs := []) (dv := iZ) rfl rfl ?_
      intro b186 T186 h186 k186 W186 E186 ge186 gz186 gb186 V186
      refine o_astore W186 (L' := #[vi p0, vi p1, vi p2, vi p3, vi p4, vi 0, vi 1, vi (p0 &&& 255), vi (p1 &&& 255), vi (p2 &&& 255), vi (p3 &&& 255), vr b186, un, un, un, un, un, un, un]) 60 (hb hy at_58) rfl rfl rfl <| o_iload W186 62 (hb hy at_60) rfl rfl <| o_ifY W186 71 (hb hy at_62) (XT.i0_le_t (by decide)) (by decide) rfl <| o_iload W186 73 (hb hy at_71) rfl rfl <| o_iconst W186 (v := 1) 74 (hb hy at_73) rfl rfl <| o_icmpY W186 83 (hb hy at_74) (XT.ii_le_t (by decide)) (by decide) rfl ?_
      refine o_iload W186 85 (hb hy at_83) rfl rfl <| o_iconst W186 (v := 2) 86 (hb hy at_85) rfl rfl <| o_icmpY W186 95 (hb hy at_86) (XT.ii_le_t (by decide)) (by decide) rfl ?_
      refine o_new W186 (w1 hw) (w2 hw) (w3 hw) (fun _ E => IW.ext E W186.inv) 98 (hb hy at_95) rfl (cells' := 2) (slots' := 4) rfl rfl (by decide) (by decide) ?_
      intro b187 T187 h187 W187 E187 ge187 gz187 gb187 A187 D187
      have Fb187_value : Fld Z h187 b187 s0 "value" "[B" .null := D187 (Or.inr (w16 hw)) (ty := (.array .byte)) (by decide)
      have Fb187_coder : Fld Z h187 b187 s0 "coder" "B" iZ := D187 (Or.inr (w17 hw)) (ty := .byte) (by decide)
      refine o_dup W187 99 (hb hy at_98) rfl rfl <| o_aload W187 101 (hb hy at_99) rfl rfl rfl ?_
      have c188 := (V186.ext E187)
      refine o_specialW W187 (y := mn1) rfl (w4 hw) (w5 hw) (w6 hw) (by decide) (a := b187) (argsL := [(.ref b186)]) (CtrW.back (Wd := 1) W187 (rm2 l hw b187 b186 k186 h187 W187.old c188 A187 Fb187_value Fb187_coder gz187) (w6 hw) (w3 hw) (by decide) (by decide) (own_EL hw)) (by rw [hml]; rfl) (lenOf pd1 rfl) (S := [(.ref b187)]) rfl (by exact Nat.le_of_eq rfl) 104 (hb hy at_101) rfl (cells' := 6) (slots' := 12) rfl rfl (by decide) (by decide) (wy := [b187]) qf (allS ⟨gz187, (Or.inr gb187)⟩ all0)  ?_
      intro v189 T189 h189 V189 lo189 W189 K189 C189 q189
      obtain ⟨r1_189, r2_189, P189_0, P189_1, P189_2, rfl⟩ := q189.2.2
      show Gl _ _ _ _ _ _ _ _ [(.ref b187)]
      refine o_astore W189 (L' := #[vi p0, vi p1, vi p2, vi p3, vi p4, vi 0, vi 1, vi (p0 &&& 255), vi (p1 &&& 255), vi (p2 &&& 255), vi (p3 &&& 255), vr b186, vr b187, un, un, un, un, un, un]) 106 (hb hy at_104) rfl rfl rfl <| o_iload W189 108 (hb hy at_106) rfl rfl <| o_ifN W189 111 (hb hy at_108) (XT.i0_eq_f (by decide)) rfl <| o_iconst W189 (v := 3) 112 (hb hy at_111) rfl rfl <| o_goto W189 116 (hb hy at_112) (by decide) rfl <| o_istore W189 (L' := #[vi p0, vi p1, vi p2, vi p3, vi p4, vi 0, vi 1, vi (p0 &&& 255), vi (p1 &&& 255), vi (p2 &&& 255), vi (p3 &&& 255), vr b186, vr b187, vi 3, un, un, un, un, un]) 118 (hb hy at_116) rfl rfl ?_
      refine o_iload W189 120 (hb hy at_118) rfl rfl <| o_iload W189 122 (hb hy at_120) rfl rfl <| o_iadd W189 (v := 3) 123 (hb hy at_122) (by decide) rfl <| o_iconst W189 (v := 3) 124 (hb hy at_123) rfl rfl <| o_iadd W189 (v := 6) 125 (hb hy at_124) (by decide) rfl ?_
      refine o_newP W189 (aty := .char) (w0 hw) (fun _ E => IW.ext E W189.inv) (by decide) (cap := 6) (by decide) (by decide) 127 (hb hy at_125) rfl (cells' := 7) (slots' := 18) rfl rfl (by decide) (by decide) (vs := [iZ, iZ, iZ, iZ, iZ, iZ]) (dv := iZ) rfl rfl ?_
      intro b190 T190 h190 k190 W190 E190 ge190 gz190 gb190 V190
      refine o_astore W190 (L' := #[vi p0, vi p1, vi p2, vi p3, vi p4, vi 0, vi 1, vi (p0 &&& 255), vi (p1 &&& 255), vi (p2 &&& 255), vi (p3 &&& 255), vr b186, vr b187, vi 3, vr b190, un, un, un, un]) 129 (hb hy at_127) rfl rfl rfl <| o_iload W190 131 (hb hy at_129) rfl rfl <| o_ifN W190 134 (hb hy at_131) (XT.i0_eq_f (by decide)) rfl <| o_aload W190 136 (hb hy at_134) rfl rfl rfl <| o_iconst W190 (v := 0) 137 (hb hy at_136) rfl rfl <| o_bipush W190 (v := 60) 139 (hb hy at_137) (by decide) rfl ?_
      refine o_stC W190 V190 (i := 0) (x' := (60 : Int32)) (by decide) (by decide) (by decide) (Nat.lt_of_sub_eq_succ rfl) (by decide) (vs' := [(.int 60), iZ, iZ, iZ, iZ, iZ]) rfl gz190 (Or.inr gb190) (fun _ R => IW.wr R (Safe.arv W190.al V190 (by decide)) W190.inv) 140 (hb hy at_139) rfl ?_
      intro T191 h191 lo191 W191 R191 V191
      refine o_aload W191 142 (hb hy at_140) rfl rfl rfl <| o_iconst W191 (v := 1) 143 (hb hy at_142) rfl rfl <| o_iload W191 145 (hb hy at_143) rfl rfl ?_
      refine o_stC W191 V191 (i := 1) (x' := (p3 &&& 255)) (by decide) (by decide) (by decide) (Nat.lt_of_sub_eq_succ rfl) (own_i2c (own_b255 _)) (vs' := [(.int 60), (.int (p3 &&& 255)), iZ, iZ, iZ, iZ]) rfl gz190 (Or.inr gb190) (fun _ R => IW.wr R (Safe.arv W191.al V191 (by decide)) W191.inv) 146 (hb hy at_145) rfl ?_
      intro T192 h192 lo192 W192 R192 V192
      refine o_aload W192 148 (hb hy at_146) rfl rfl rfl <| o_iconst W192 (v := 2) 149 (hb hy at_148) rfl rfl <| o_bipush W192 (v := 62) 151 (hb hy at_149) (by decide) rfl ?_
      refine o_stC W192 V192 (i := 2) (x' := (62 : Int32)) (by decide) (by decide) (by decide) (Nat.lt_of_sub_eq_succ rfl) (by decide) (vs' := [(.int 60), (.int (p3 &&& 255)), (.int 62), iZ, iZ, iZ]) rfl gz190 (Or.inr gb190) (fun _ R => IW.wr R (Safe.arv W192.al V192 (by decide)) W192.inv) 152 (hb hy at_151) rfl ?_
      intro T193 h193 lo193 W193 R193 V193
      refine o_aload W193 154 (hb hy at_152) rfl rfl rfl <| o_iload W193 156 (hb hy at_154) rfl rfl <| o_bipush W193 (v := 60) 158 (hb hy at_156) (by decide) rfl ?_
      refine o_stC W193 V193 (i := 3) (x' := (60 : Int32)) (by decide) (by decide) (by decide) (Nat.lt_of_sub_eq_succ rfl) (by decide) (vs' := [(.int 60), (.int (p3 &&& 255)), (.int 62), (.int 60), iZ, iZ]) rfl gz190 (Or.inr gb190) (fun _ R => IW.wr R (Safe.arv W193.al V193 (by decide)) W193.inv) 159 (hb hy at_158) rfl ?_
      intro T194 h194 lo194 W194 R194 V194
      refine o_aload W194 161 (hb hy at_159) rfl rfl rfl <| o_iload W194 163 (hb hy at_161) rfl rfl <| o_iconst W194 (v := 1) 164 (hb hy at_163) rfl rfl <| o_iadd W194 (v := 4) 165 (hb hy at_164) (by decide) rfl <| o_bipush W194 (v := 47) 167 (hb hy at_165) (by decide) rfl ?_
      refine o_stC W194 V194 (i := 4) (x' := (47 : Int32)) (by decide) (by decide) (by decide) (Nat.lt_of_sub_eq_succ rfl) (by decide) (vs' := [(.int 60), (.int (p3 &&& 255)), (.int 62), (.int 60), (.int 47), iZ]) rfl gz190 (Or.inr gb190) (fun _ R => IW.wr R (Safe.arv W194.al V194 (by decide)) W194.inv) 168 (hb hy at_167) rfl ?_
      intro T195 h195 lo195 W195 R195 V195
      refine o_iload W195 170 (hb hy at_168) rfl rfl <| o_ifY W195 182 (hb hy at_170) (XT.i0_le_t (by decide)) (by decide) rfl <| o_iload W195 184 (hb hy at_182) rfl rfl <| o_iconst W195 (v := 1) 185 (hb hy at_184) rfl rfl <| o_icmpY W195 197 (hb hy at_185) (XT.ii_le_t (by decide)) (by decide) rfl <| o_iload W195 199 (hb hy at_197) rfl rfl ?_
      refine o_iconst W195 (v := 2) 200 (hb hy at_199) rfl rfl <| o_icmpY W195 212 (hb hy at_200) (XT.ii_le_t (by decide)) (by decide) rfl <| o_aload W195 214 (hb hy at_212) rfl rfl rfl <| o_iload W195 216 (hb hy at_214) rfl rfl <| o_iconst W195 (v := 2) 217 (hb hy at_216) rfl rfl <| o_iadd W195 (v := 5) 218 (hb hy at_217) (by decide) rfl ?_
      refine o_iload W195 220 (hb hy at_218) rfl rfl <| o_iadd W195 (v := 5) 221 (hb hy at_220) (by decide) rfl <| o_bipush W195 (v := 62) 223 (hb hy at_221) (by decide) rfl ?_
      refine o_stC W195 V195 (i := 5) (x' := (62 : Int32)) (by decide) (by decide) (by decide) (Nat.lt_of_sub_eq_succ rfl) (by decide) (vs' := [(.int 60), (.int (p3 &&& 255)), (.int 62), (.int 60), (.int 47), (.int 62)]) rfl gz190 (Or.inr gb190) (fun _ R => IW.wr R (Safe.arv W195.al V195 (by decide)) W195.inv) 224 (hb hy at_223) rfl ?_
      intro T196 h196 lo196 W196 R196 V196
      refine o_new W196 (w1 hw) (w2 hw) (w3 hw) (fun _ E => IW.ext E W196.inv) 227 (hb hy at_224) rfl (cells' := 8) (slots' := 22) rfl rfl (by decide) (by decide) ?_
      intro b197 T197 h197 W197 E197 ge197 gz197 gb197 A197 D197
      have Fb197_value : Fld Z h197 b197 s0 "value" "[B" .null := D197 (Or.inr (w16 hw)) (ty := (.array .byte)) (by decide)
      have Fb197_coder : Fld Z h197 b197 s0 "coder" "B" iZ := D197 (Or.inr (w17 hw)) (ty := .byte) (by decide)
      refine o_dup W197 228 (hb hy at_227) rfl rfl <| o_aload W197 230 (hb hy at_228) rfl rfl rfl ?_
      have c198 := (V196.ext E197)
      have ok199 : own_ok [(60 : Int32), (p3 &&& 255), (62 : Int32), (60 : Int32), (47 : Int32), (62 : Int32)] := ⟨by simp only [List.mem_cons, List.not_mem_nil, or_false, forall_eq_or_imp, forall_eq, false_imp_iff, implies_true]; exact ⟨(by unfold own_b; decide), (own_b255 _), (by unfold own_b; decide), (by unfold own_b; decide), (by unfold own_b; decide), (by unfold own_b; decide)⟩, Nat.le_of_ble_eq_true rfl⟩
      have sf200 := own_safeS (EL := consts_1) W197.al A197 Fb197_value
      refine o_special W197 (y := mn1) rfl (w4 hw) (w5 hw) (w6 hw) (by decide) (a := b197) (argsL := [(.ref b190)]) (StrChars.Road.backV (W := 1) W197.2.2.2.1 (own_hV hw) (kI := 4) (w2 hw) (cs := [(60 : Int32), (p3 &&& 255), (62 : Int32), (60 : Int32), (47 : Int32), (62 : Int32)]) (bs := [((60 : Int32)).toInt8.toInt32, ((p3 &&& 255)).toInt8.toInt32, ((62 : Int32)).toInt8.toInt32, ((60 : Int32)).toInt8.toInt32, ((47 : Int32)).toInt8.toInt32, ((62 : Int32)).toInt8.toInt32]) (n := 6) (n0 := Z.heap.size) gz197 W197.zs A197 Fb197_value Fb197_coder c198 (SgCS.ext W197.ox) NgCS rfl rfl (by decide) (by decide) ok199.1 rfl (by decide) (by decide)) (by rw [hml]; rfl) (lenOf pd1 rfl) (S := [(.ref b197)]) rfl (by exact Nat.le_of_eq rfl) 233 (hb hy at_230) rfl (cells' := 9) (slots' := 28) rfl rfl (by decide) (by decide) (wy := [b197]) (fun _ _ _ q => ⟨q.2.1, q.2.2.1⟩) (allS ⟨gz197, (Or.inr gb197)⟩ all0) (fun _ K => IW.keep K (sfS sf200 sf0) W197.inv) ?_
      intro v201 T201 h201 lo201 W201 K201 q201
      obtain ⟨rfl, -, -, X201, Fc201, t201, kb201, gz201, ge201, -, Fv201, A201⟩ := q201
      have B201 : Arv Z h201 t201 kb201 .byte 6 [(.int (b8 60)), (.int (b8 (p3 &&& 255))), (.int (b8 62)), (.int (b8 60)), (.int (b8 47)), (.int (b8 62))] iZ := A201
      show Gl _ _ _ _ _ _ _ _ [(.ref b197)]
      refine o_astore W201 (L' := #[vi p0, vi p1, vi p2, vi p3, vi p4, vi 0, vi 1, vi (p0 &&& 255), vi (p1 &&& 255), vi (p2 &&& 255), vi (p3 &&& 255), vr b186, vr b187, vi 3, vr b190, vr b197, un, un, un]) 235 (hb hy at_233) rfl rfl rfl <| o_iconst W201 (v := 0) 236 (hb hy at_235) rfl rfl ?_
      refine o_newR W201 (w1 hw) (w33 hw) (fun _ E => IW.ext E W201.inv) (by decide) (cap := 0) (by decide) (by decide) 239 (hb hy at_236) rfl (cells' := 10) (slots' := 28) rfl rfl (by decide) (by decide) (vs := []) rfl ?_
      intro b202 T202 h202 k202 W202 E202 ge202 gz202 gb202 V202 O202
      refine o_astore W202 (L' := #[vi p0, vi p1, vi p2, vi p3, vi p4, vi 0, vi 1, vi (p0 &&& 255), vi (p1 &&& 255), vi (p2 &&& 255), vi (p3 &&& 255), vr b186, vr b187, vi 3, vr b190, vr b197, vr b202, un, un]) 241 (hb hy at_239) rfl rfl rfl ?_
      refine o_new W202 (w34 hw) (w35 hw) (w36 hw) (fun _ E => IW.ext E W202.inv) 244 (hb hy at_241) rfl (cells' := 11) (slots' := 29) rfl rfl (by decide) (by decide) ?_
      intro b203 T203 h203 W203 E203 ge203 gz203 gb203 A203 D203
      have Fb203_out : Fld Z h203 b203 s4 "out" s5 .null := D203 (Or.inr (w60 hw)) (ty := (.object s2)) (by decide)
      refine o_dup W203 245 (hb hy at_244) rfl rfl ?_
      refine o_specialC W203 rfl (w37 hw) (w38 hw) (w39 hw) (by decide) (w36 hw) (rm5 l hw gCS b203 h203 W203.old SgCS NgCS A203 Fb203_out gz203) 1 13 49 (by decide) (by rw [hml]; rfl) (lenOf pd3 rfl) [(.ref b203)] rfl rfl 248 (hb hy at_245) rfl rfl rfl (allS ⟨gz203, (Or.inr gb203)⟩ all0) (fun _ K => IW.keep K (sfS (Safe.exa W203.al A203 (by decide) (by decide)) sf0) W203.inv) ?_
      intro v204 T204 h204 lo204 W204 K204 q204
      obtain ⟨r1_204, r2_204, r3_204, P204_0, P204_1, P204_2, P204_3, P204_4, P204_5, P204_6, P204_7, rfl⟩ := q204.2.2
      show Gl _ _ _ _ _ _ _ _ [(.ref b203)]
      refine o_astore W204 (L' := #[vi p0, vi p1, vi p2, vi p3, vi p4, vi 0, vi 1, vi (p0 &&& 255), vi (p1 &&& 255), vi (p2 &&& 255), vi (p3 &&& 255), vr b186, vr b187, vi 3, vr b190, vr b197, vr b202, vr b203, un]) 250 (hb hy at_248) rfl rfl rfl <| o_iload W204 252 (hb hy at_250) rfl rfl <| o_ifN W204 255 (hb hy at_252) (XT.i0_eq_f (by decide)) rfl <| o_aload W204 257 (hb hy at_255) rfl rfl rfl <| o_iload W204 259 (hb hy at_257) rfl rfl ?_
      refine o_staticC W204 (w187 hw) (w188 hw) (w3 hw) (w189 hw) (by decide) (rm107 l hw gCS (p3 &&& 255) h204 W204.old SgCS NgCS (own_b255 _)) 1 15 54 (by decide) (by rw [hml]; rfl) (lenOf pd27 rfl) [(.ref b203)] rfl rfl 262 (hb hy at_259) rfl rfl rfl all0 (fun _ K => IW.keep K sf0 W204.inv) ?_
      intro v205 T205 h205 lo205 W205 K205 q205
      obtain ⟨r1_205, r2_205, r3_205, P205_0, P205_1, P205_2, P205_3, P205_4, P205_5, rfl⟩ := q205.2.2
      show Gl _ _ _ _ _ _ _ _ [(.ref r1_205), (.ref b203)]
      have B206 : Arv Z h205 r2_205 r3_205 .byte 1 [(.int (b8 (p3 &&& 255)))] iZ := P205_5
      refine o_aload W205 264 (hb hy at_262) rfl rfl rfl ?_
      have c207 := (((V202.ext E203).keep K204 (ninS (own_ne V202.lt ge203) nin0)).keep K205 nin0)
      have c208 := (P204_2.keep K205 nin0)
      have c209 := (P204_6.keep K205 nin0)
      have c210 := (P204_4.keep K205 nin0)
      have c211 := (P204_7.keep K205 nin0)
      have c212 := (P204_5.keep K205 nin0)
      have c213 := (P204_3.keep K205)
      have c214 := (V202.ext E203)
      have c215 := ((A203.keep K204).keep K205)
      refine o_virtualC W205 (w197 hw) (w198 hw) (o_nf W205 rfl (w200 hw)) (w200 hw) (w199 hw) (by decide) c215 (w201 hw) (w36 hw) (rm120 l hw gCS b203 r1_205 b202 k202 r1_204 r2_204 r3_204 r2_205 r3_205 (p3 &&& 255) h205 W205.old c207 c208 c213 c209 c210 c211 c212 SgCS NgCS (Nat.le_trans W203.zs P204_0) (Nat.le_trans W203.zs P204_1) P205_2 P205_3 B206 (own_ne P204_7.lt P205_1) P205_4 (own_ne c214.lt P204_1) c215) 0 15 54 (by decide) (by rw [hml]; rfl) (lenOf pd28 rfl) [] rfl rfl 267 (hb hy at_264) rfl rfl rfl (allS ⟨(Nat.le_trans W203.zs P204_0), (Or.inr (Nat.le_trans W203.keep.1 P204_0))⟩ (allS ⟨(Nat.le_trans W203.zs P204_1), (Or.inr (Nat.le_trans W203.keep.1 P204_1))⟩ all0)) (fun _ K => IW.keep K (sfS (Safe.exa W205.al c213 (by decide) (by decide)) (sfS (own_safeB W205.2.2.2.1 (n := 16) (by decide) (own_EL16 hw) c211) sf0)) W205.inv) ?_
      intro v216 T216 h216 lo216 W216 K216 q216
      obtain ⟨P216_0, P216_1, P216_2, P216_3, rfl⟩ := q216.2.2
      show Gl _ _ _ _ _ _ _ _ [(.ref b203)]
      refine o_pop W216 268 (hb hy at_267) rfl rfl <| o_aload W216 270 (hb hy at_268) rfl rfl rfl <| o_aload W216 272 (hb hy at_270) rfl rfl rfl ?_
      have c217 := (c208.keep K216 (ninS (own_ne A203.lt P204_0) (ninS (own_ne A203.lt P204_1) nin0)))
      have c218 := (A187.keep K189)
      have c219 := (((((((c218.ext E190).wr R191).wr R192).wr R193).wr R194).wr R195).wr R196)
      have c220 := (((c219.ext E197).keep K201).ext E202)
      have c221 := (c220.ext E203)
      have c222 := ((((((((((((((P189_0.ext E190).other R191 (Or.inl (own_ne c218.lt ge190))).other R192 (Or.inl (own_ne c218.lt ge190))).other R193 (Or.inl (own_ne c218.lt ge190))).other R194 (Or.inl (own_ne c218.lt ge190))).other R195 (Or.inl (own_ne c218.lt ge190))).other R196 (Or.inl (own_ne c218.lt ge190))).ext E197).keep K201 (ninS (own_ne c219.lt ge197) nin0)).ext E202).ext E203).keep K204 (ninS (own_ne c220.lt ge203) nin0)).keep K205 nin0).keep K216 (ninS (own_ne c221.lt P204_0) (ninS (own_ne c221.lt P204_1) nin0)))
      have c223 := (((((((P189_2.ext E190).other R191 (own_ne P189_2.lt ge190)).other R192 (own_ne P189_2.lt ge190)).other R193 (own_ne P189_2.lt ge190)).other R194 (own_ne P189_2.lt ge190)).other R195 (own_ne P189_2.lt ge190)).other R196 (own_ne P189_2.lt ge190))
      have c224 := (((c223.ext E197).keep K201 (ninS (own_ne c223.lt ge197) nin0)).ext E202)
      have c225 := (c224.ext E203)
      have c226 := ((((((((((((((P189_2.ext E190).other R191 (own_ne P189_2.lt ge190)).other R192 (own_ne P189_2.lt ge190)).other R193 (own_ne P189_2.lt ge190)).other R194 (own_ne P189_2.lt ge190)).other R195 (own_ne P189_2.lt ge190)).other R196 (own_ne P189_2.lt ge190)).ext E197).keep K201 (ninS (own_ne c223.lt ge197) nin0)).ext E202).ext E203).keep K204 (ninS (own_ne c224.lt ge203) nin0)).keep K205 nin0).keep K216 (ninS (own_ne c225.lt P204_0) (ninS (own_ne c225.lt P204_1) nin0)))
      have c227 := ((((((((((((((P189_1.ext E190).other R191 (Or.inl (own_ne c218.lt ge190))).other R192 (Or.inl (own_ne c218.lt ge190))).other R193 (Or.inl (own_ne c218.lt ge190))).other R194 (Or.inl (own_ne c218.lt ge190))).other R195 (Or.inl (own_ne c218.lt ge190))).other R196 (Or.inl (own_ne c218.lt ge190))).ext E197).keep K201 (ninS (own_ne c219.lt ge197) nin0)).ext E202).ext E203).keep K204 (ninS (own_ne c220.lt ge203) nin0)).keep K205 nin0).keep K216 (ninS (own_ne c221.lt P204_0) (ninS (own_ne c221.lt P204_1) nin0)))
      have c228 := (c213.keep K216)
      have c229 := (((c221.keep K204).keep K205).keep K216)
      have c230 := (c215.keep K216)
      refine o_virtualW W216 (y := mn17) (z := mn17) (w61 hw) (w62 hw) (o_nf W216 rfl (w64 hw)) (w64 hw) (w63 hw) (by decide) c230 (argsL := [(.ref b187)]) (CtrW.back (Wd := 0) W216 (rm134 l hw gCS b203 b187 r1_204 r2_204 r3_204 (b8 (p3 &&& 255)) r1_189 r2_189 h216 W216.old c217 c228 SgCS NgCS P216_0 P216_1 P216_2 P216_3 (Nat.le_trans W203.zs P204_1) (Nat.le_trans W203.zs P204_0) c229 c222 c226 (own_ne' c225.lt P204_1) c227) (w65 hw) (w36 hw) (by decide) (by decide) (own_EL hw)) (by rw [hml]; rfl) (lenOf pd15 rfl) (S := []) rfl (by exact Nat.le_of_eq rfl) 275 (hb hy at_272) rfl (cells' := 17) (slots' := 66) rfl rfl (by decide) (by decide) (wy := [r2_204, r1_204]) qf (allS ⟨(Nat.le_trans W203.zs P204_1), (Or.inr (Nat.le_trans W203.keep.1 P204_1))⟩ (allS ⟨(Nat.le_trans W203.zs P204_0), (Or.inr (Nat.le_trans W203.keep.1 P204_0))⟩ all0))  ?_
      intro v231 T231 h231 V231 lo231 W231 K231 C231 q231
      obtain ⟨P231_0, P231_1, P231_2, P231_3, rfl⟩ := q231.2.2
      show Gl _ _ _ _ _ _ _ _ [(.ref b203)]
      refine o_astore W231 (L' := #[vi p0, vi p1, vi p2, vi p3, vi p4, vi 0, vi 1, vi (p0 &&& 255), vi (p1 &&& 255), vi (p2 &&& 255), vi (p3 &&& 255), vr b186, vr b187, vi 3, vr b190, vr b197, vr b202, vr b203, vr b203]) 277 (hb hy at_275) rfl rfl rfl <| o_aload W231 279 (hb hy at_277) rfl rfl rfl <| o_aload W231 281 (hb hy at_279) rfl rfl rfl ?_
      refine o_acmpY W231 286 (hb hy at_281) rfl rfl (XT.aa_eq_t rfl) (by decide) rfl ?_
      refine o_aload W231 288 (hb hy at_286) rfl rfl rfl <| o_aload W231 290 (hb hy at_288) rfl rfl rfl ?_
      have c232 := (c217.keep K231 (ninS (own_ne A203.lt P204_1) (ninS (own_ne A203.lt P204_0) nin0)))
      have c233 := (c228.keep K231)
      have c234 := (c230.keep K231)
      refine o_virtualC W231 (w132 hw) (w133 hw) (o_nf W231 rfl (w135 hw)) (w135 hw) (w134 hw) (by decide) c234 (w136 hw) (w36 hw) (rm140 l hw gCS b203 r1_204 r2_204 r3_204 (b8 (p3 &&& 255)) (b8 60) (b8 47) h231 W231.old c232 c233 P231_1 P231_0 SgCS NgCS P231_3 P231_2) 1 19 76 (by decide) (by rw [hml]; rfl) (lenOf pd22 rfl) [(.ref b197)] rfl rfl 293 (hb hy at_290) rfl rfl rfl all0 (fun _ K => IW.keep K sf0 W231.inv) ?_
      intro v235 T235 h235 lo235 W235 K235 q235
      obtain ⟨r1_235, r2_235, r3_235, P235_0, P235_1, P235_2, P235_3, P235_4, P235_5, rfl⟩ := q235.2.2
      show Gl _ _ _ _ _ _ _ _ [(.ref r1_235), (.ref b197)]
      have c236 := (X201.ext E202)
      have c237 := (c236.ext E203)
      have c238 := (((((((Fc201.ext E202).ext E203).keep K204 (ninS (own_ne c236.lt ge203) nin0)).keep K205 nin0).keep K216 (ninS (own_ne c237.lt P204_0) (ninS (own_ne c237.lt P204_1) nin0))).keep K231 (ninS (own_ne c237.lt P204_1) (ninS (own_ne c237.lt P204_0) nin0))).keep K235 nin0)
      have c239 := (((((((Fv201.ext E202).ext E203).keep K204 (ninS (own_ne c236.lt ge203) nin0)).keep K205 nin0).keep K216 (ninS (own_ne c237.lt P204_0) (ninS (own_ne c237.lt P204_1) nin0))).keep K231 (ninS (own_ne c237.lt P204_1) (ninS (own_ne c237.lt P204_0) nin0))).keep K235 nin0)
      have c240 := (B201.ext E202)
      have c241 := (c240.ext E203)
      have c242 := (((((((B201.ext E202).ext E203).keep K204 (ninS (own_ne c240.lt ge203) nin0)).keep K205 nin0).keep K216 (ninS (own_ne c241.lt P204_0) (ninS (own_ne c241.lt P204_1) nin0))).keep K231 (ninS (own_ne c241.lt P204_1) (ninS (own_ne c241.lt P204_0) nin0))).keep K235 nin0)
      have c243 := (((((c237.keep K204).keep K205).keep K216).keep K231).keep K235)
      have c244 := ((((c237.keep K204).keep K205).keep K216).keep K231)
      refine o_virtualC W235 (w178 hw) (w179 hw) (o_nf W235 rfl (w181 hw)) (w181 hw) (w180 hw) (by decide) c243 (w182 hw) (w3 hw) (rm142 l hw gCS b197 r1_235 t201 r2_235 kb201 (p3 &&& 255) r3_235 (b8 (p3 &&& 255)) (b8 60) (b8 47) h235 W235.old c243 P235_2 (own_ne c244.lt P235_0) SgCS NgCS c238 P235_4 c239 P235_3 c242 P235_5 rfl rfl rfl) 0 19 76 (by decide) (by rw [hml]; rfl) (lenOf pd24 rfl) [] rfl rfl 296 (hb hy at_293) rfl rfl rfl all0 (fun _ K => IW.keep K sf0 W235.inv) ?_
      intro v245 T245 h245 lo245 W245 K245 q245
      obtain rfl := q245.2.2
      show Gl _ _ _ _ _ _ _ _ [(.int 1)]
      exact o_retNW W245 (own_EL hw) hlk (t := .boolean) hret (by simp) (z' := (1 : Int32)) (by decide) (hb hy at_296) (by decide) (by decide) rfl
    · rw [ek185]
      refine o_iload W0 56 (hb hy at_54) rfl rfl ?_
      refine o_newP W0 (aty := .char) (w0 hw) (fun _ E => IW.ext E W0.inv) (by decide) (cap := 1) (by decide) (by decide) 58 (hb hy at_56) rfl (cells' := 1) (slots' := 1) rfl rfl (by decide) (by decide) (vs := [iZ]) (dv := iZ) rfl rfl ?_
      intro b246 T246 h246 k246 W246 E246 ge246 gz246 gb246 V246
      refine o_astore W246 (L' := #[vi p0, vi p1, vi p2, vi p3, vi p4, vi 1, vi 1, vi (p0 &&& 255), vi (p1 &&& 255), vi (p2 &&& 255), vi (p3 &&& 255), vr b246, un, un, un, un, un, un, un]) 60 (hb hy at_58) rfl rfl rfl <| o_iload W246 62 (hb hy at_60) rfl rfl <| o_ifN W246 65 (hb hy at_62) (XT.i0_le_f (by decide)) rfl <| o_aload W246 67 (hb hy at_65) rfl rfl rfl <| o_iconst W246 (v := 0) 68 (hb hy at_67) rfl rfl <| o_iload W246 70 (hb hy at_68) rfl rfl ?_
      refine o_stC W246 V246 (i := 0) (x' := (p0 &&& 255)) (by decide) (by decide) (by decide) (Nat.lt_of_sub_eq_succ rfl) (own_i2c (own_b255 _)) (vs' := [(.int (p0 &&& 255))]) rfl gz246 (Or.inr gb246) (fun _ R => IW.wr R (Safe.arv W246.al V246 (by decide)) W246.inv) 71 (hb hy at_70) rfl ?_
      intro T247 h247 lo247 W247 R247 V247
      refine o_iload W247 73 (hb hy at_71) rfl rfl <| o_iconst W247 (v := 1) 74 (hb hy at_73) rfl rfl <| o_icmpY W247 83 (hb hy at_74) (XT.ii_le_t (by decide)) (by decide) rfl <| o_iload W247 85 (hb hy at_83) rfl rfl <| o_iconst W247 (v := 2) 86 (hb hy at_85) rfl rfl <| o_icmpY W247 95 (hb hy at_86) (XT.ii_le_t (by decide)) (by decide) rfl ?_
      refine o_new W247 (w1 hw) (w2 hw) (w3 hw) (fun _ E => IW.ext E W247.inv) 98 (hb hy at_95) rfl (cells' := 2) (slots' := 5) rfl rfl (by decide) (by decide) ?_
      intro b248 T248 h248 W248 E248 ge248 gz248 gb248 A248 D248
      have Fb248_value : Fld Z h248 b248 s0 "value" "[B" .null := D248 (Or.inr (w16 hw)) (ty := (.array .byte)) (by decide)
      have Fb248_coder : Fld Z h248 b248 s0 "coder" "B" iZ := D248 (Or.inr (w17 hw)) (ty := .byte) (by decide)
      refine o_dup W248 99 (hb hy at_98) rfl rfl <| o_aload W248 101 (hb hy at_99) rfl rfl rfl ?_
      have c249 := (V247.ext E248)
      have ok250 : own_ok [(p0 &&& 255)] := ⟨by simp only [List.mem_cons, List.not_mem_nil, or_false, forall_eq_or_imp, forall_eq, false_imp_iff, implies_true]; exact (own_b255 _), Nat.le_of_ble_eq_true rfl⟩
      have sf251 := own_safeS (EL := consts_1) W248.al A248 Fb248_value
      refine o_special W248 (y := mn1) rfl (w4 hw) (w5 hw) (w6 hw) (by decide) (a := b248) (argsL := [(.ref b246)]) (StrChars.Road.backV (W := 1) W248.2.2.2.1 (own_hV hw) (kI := 4) (w2 hw) (cs := [(p0 &&& 255)]) (bs := [((p0 &&& 255)).toInt8.toInt32]) (n := 1) (n0 := Z.heap.size) gz248 W248.zs A248 Fb248_value Fb248_coder c249 (SgCS.ext W248.ox) NgCS rfl rfl (by decide) (by decide) ok250.1 rfl (by decide) (by decide)) (by rw [hml]; rfl) (lenOf pd1 rfl) (S := [(.ref b248)]) rfl (by exact Nat.le_of_eq rfl) 104 (hb hy at_101) rfl (cells' := 3) (slots' := 6) rfl rfl (by decide) (by decide) (wy := [b248]) (fun _ _ _ q => ⟨q.2.1, q.2.2.1⟩) (allS ⟨gz248, (Or.inr gb248)⟩ all0) (fun _ K => IW.keep K (sfS sf251 sf0) W248.inv) ?_
      intro v252 T252 h252 lo252 W252 K252 q252
      obtain ⟨rfl, -, -, X252, Fc252, t252, kb252, gz252, ge252, -, Fv252, A252⟩ := q252
      have B252 : Arv Z h252 t252 kb252 .byte 1 [(.int (b8 (p0 &&& 255)))] iZ := A252
      show Gl _ _ _ _ _ _ _ _ [(.ref b248)]
      refine o_astore W252 (L' := #[vi p0, vi p1, vi p2, vi p3, vi p4, vi 1, vi 1, vi (p0 &&& 255), vi (p1 &&& 255), vi (p2 &&& 255), vi (p3 &&& 255), vr b246, vr b248, un, un, un, un, un, un]) 106 (hb hy at_104) rfl rfl rfl <| o_iload W252 108 (hb hy at_106) rfl rfl <| o_ifN W252 111 (hb hy at_108) (XT.i0_eq_f (by decide)) rfl <| o_iconst W252 (v := 3) 112 (hb hy at_111) rfl rfl <| o_goto W252 116 (hb hy at_112) (by decide) rfl <| o_istore W252 (L' := #[vi p0, vi p1, vi p2, vi p3, vi p4, vi 1, vi 1, vi (p0 &&& 255), vi (p1 &&& 255), vi (p2 &&& 255), vi (p3 &&& 255), vr b246, vr b248, vi 3, un, un, un, un, un]) 118 (hb hy at_116) rfl rfl ?_
      refine o_iload W252 120 (hb hy at_118) rfl rfl <| o_iload W252 122 (hb hy at_120) rfl rfl <| o_iadd W252 (v := 4) 123 (hb hy at_122) (by decide) rfl <| o_iconst W252 (v := 3) 124 (hb hy at_123) rfl rfl <| o_iadd W252 (v := 7) 125 (hb hy at_124) (by decide) rfl ?_
      refine o_newP W252 (aty := .char) (w0 hw) (fun _ E => IW.ext E W252.inv) (by decide) (cap := 7) (by decide) (by decide) 127 (hb hy at_125) rfl (cells' := 4) (slots' := 13) rfl rfl (by decide) (by decide) (vs := [iZ, iZ, iZ, iZ, iZ, iZ, iZ]) (dv := iZ) rfl rfl ?_
      intro b253 T253 h253 k253 W253 E253 ge253 gz253 gb253 V253
      refine o_astore W253 (L' := #[vi p0, vi p1, vi p2, vi p3, vi p4, vi 1, vi 1, vi (p0 &&& 255), vi (p1 &&& 255), vi (p2 &&& 255), vi (p3 &&& 255), vr b246, vr b248, vi 3, vr b253, un, un, un, un]) 129 (hb hy at_127) rfl rfl rfl <| o_iload W253 131 (hb hy at_129) rfl rfl <| o_ifN W253 134 (hb hy at_131) (XT.i0_eq_f (by decide)) rfl <| o_aload W253 136 (hb hy at_134) rfl rfl rfl <| o_iconst W253 (v := 0) 137 (hb hy at_136) rfl rfl <| o_bipush W253 (v := 60) 139 (hb hy at_137) (by decide) rfl ?_
      refine o_stC W253 V253 (i := 0) (x' := (60 : Int32)) (by decide) (by decide) (by decide) (Nat.lt_of_sub_eq_succ rfl) (by decide) (vs' := [(.int 60), iZ, iZ, iZ, iZ, iZ, iZ]) rfl gz253 (Or.inr gb253) (fun _ R => IW.wr R (Safe.arv W253.al V253 (by decide)) W253.inv) 140 (hb hy at_139) rfl ?_
      intro T254 h254 lo254 W254 R254 V254
      refine o_aload W254 142 (hb hy at_140) rfl rfl rfl <| o_iconst W254 (v := 1) 143 (hb hy at_142) rfl rfl <| o_iload W254 145 (hb hy at_143) rfl rfl ?_
      refine o_stC W254 V254 (i := 1) (x' := (p3 &&& 255)) (by decide) (by decide) (by decide) (Nat.lt_of_sub_eq_succ rfl) (own_i2c (own_b255 _)) (vs' := [(.int 60), (.int (p3 &&& 255)), iZ, iZ, iZ, iZ, iZ]) rfl gz253 (Or.inr gb253) (fun _ R => IW.wr R (Safe.arv W254.al V254 (by decide)) W254.inv) 146 (hb hy at_145) rfl ?_
      intro T255 h255 lo255 W255 R255 V255
      refine o_aload W255 148 (hb hy at_146) rfl rfl rfl <| o_iconst W255 (v := 2) 149 (hb hy at_148) rfl rfl <| o_bipush W255 (v := 62) 151 (hb hy at_149) (by decide) rfl ?_
      refine o_stC W255 V255 (i := 2) (x' := (62 : Int32)) (by decide) (by decide) (by decide) (Nat.lt_of_sub_eq_succ rfl) (by decide) (vs' := [(.int 60), (.int (p3 &&& 255)), (.int 62), iZ, iZ, iZ, iZ]) rfl gz253 (Or.inr gb253) (fun _ R => IW.wr R (Safe.arv W255.al V255 (by decide)) W255.inv) 152 (hb hy at_151) rfl ?_
      intro T256 h256 lo256 W256 R256 V256
      refine o_aload W256 154 (hb hy at_152) rfl rfl rfl <| o_iload W256 156 (hb hy at_154) rfl rfl <| o_bipush W256 (v := 60) 158 (hb hy at_156) (by decide) rfl ?_
      refine o_stC W256 V256 (i := 3) (x' := (60 : Int32)) (by decide) (by decide) (by decide) (Nat.lt_of_sub_eq_succ rfl) (by decide) (vs' := [(.int 60), (.int (p3 &&& 255)), (.int 62), (.int 60), iZ, iZ, iZ]) rfl gz253 (Or.inr gb253) (fun _ R => IW.wr R (Safe.arv W256.al V256 (by decide)) W256.inv) 159 (hb hy at_158) rfl ?_
      intro T257 h257 lo257 W257 R257 V257
      refine o_aload W257 161 (hb hy at_159) rfl rfl rfl <| o_iload W257 163 (hb hy at_161) rfl rfl <| o_iconst W257 (v := 1) 164 (hb hy at_163) rfl rfl <| o_iadd W257 (v := 4) 165 (hb hy at_164) (by decide) rfl <| o_bipush W257 (v := 47) 167 (hb hy at_165) (by decide) rfl ?_
      refine o_stC W257 V257 (i := 4) (x' := (47 : Int32)) (by decide) (by decide) (by decide) (Nat.lt_of_sub_eq_succ rfl) (by decide) (vs' := [(.int 60), (.int (p3 &&& 255)), (.int 62), (.int 60), (.int 47), iZ, iZ]) rfl gz253 (Or.inr gb253) (fun _ R => IW.wr R (Safe.arv W257.al V257 (by decide)) W257.inv) 168 (hb hy at_167) rfl ?_
      intro T258 h258 lo258 W258 R258 V258
      refine o_iload W258 170 (hb hy at_168) rfl rfl <| o_ifN W258 173 (hb hy at_170) (XT.i0_le_f (by decide)) rfl <| o_aload W258 175 (hb hy at_173) rfl rfl rfl <| o_iload W258 177 (hb hy at_175) rfl rfl <| o_iconst W258 (v := 2) 178 (hb hy at_177) rfl rfl <| o_iadd W258 (v := 5) 179 (hb hy at_178) (by decide) rfl ?_
      refine o_iload W258 181 (hb hy at_179) rfl rfl ?_
      refine o_stC W258 V258 (i := 5) (x' := (p0 &&& 255)) (by decide) (by decide) (by decide) (Nat.lt_of_sub_eq_succ rfl) (own_i2c (own_b255 _)) (vs' := [(.int 60), (.int (p3 &&& 255)), (.int 62), (.int 60), (.int 47), (.int (p0 &&& 255)), iZ]) rfl gz253 (Or.inr gb253) (fun _ R => IW.wr R (Safe.arv W258.al V258 (by decide)) W258.inv) 182 (hb hy at_181) rfl ?_
      intro T259 h259 lo259 W259 R259 V259
      refine o_iload W259 184 (hb hy at_182) rfl rfl <| o_iconst W259 (v := 1) 185 (hb hy at_184) rfl rfl <| o_icmpY W259 197 (hb hy at_185) (XT.ii_le_t (by decide)) (by decide) rfl <| o_iload W259 199 (hb hy at_197) rfl rfl <| o_iconst W259 (v := 2) 200 (hb hy at_199) rfl rfl <| o_icmpY W259 212 (hb hy at_200) (XT.ii_le_t (by decide)) (by decide) rfl ?_
      refine o_aload W259 214 (hb hy at_212) rfl rfl rfl <| o_iload W259 216 (hb hy at_214) rfl rfl <| o_iconst W259 (v := 2) 217 (hb hy at_216) rfl rfl <| o_iadd W259 (v := 5) 218 (hb hy at_217) (by decide) rfl <| o_iload W259 220 (hb hy at_218) rfl rfl <| o_iadd W259 (v := 6) 221 (hb hy at_220) (by decide) rfl ?_
      refine o_bipush W259 (v := 62) 223 (hb hy at_221) (by decide) rfl ?_
      refine o_stC W259 V259 (i := 6) (x' := (62 : Int32)) (by decide) (by decide) (by decide) (Nat.lt_of_sub_eq_succ rfl) (by decide) (vs' := [(.int 60), (.int (p3 &&& 255)), (.int 62), (.int 60), (.int 47), (.int (p0 &&& 255)), (.int 62)]) rfl gz253 (Or.inr gb253) (fun _ R => IW.wr R (Safe.arv W259.al V259 (by decide)) W259.inv) 224 (hb hy at_223) rfl ?_
      intro T260 h260 lo260 W260 R260 V260
      refine o_new W260 (w1 hw) (w2 hw) (w3 hw) (fun _ E => IW.ext E W260.inv) 227 (hb hy at_224) rfl (cells' := 5) (slots' := 17) rfl rfl (by decide) (by decide) ?_
      intro b261 T261 h261 W261 E261 ge261 gz261 gb261 A261 D261
      have Fb261_value : Fld Z h261 b261 s0 "value" "[B" .null := D261 (Or.inr (w16 hw)) (ty := (.array .byte)) (by decide)
      have Fb261_coder : Fld Z h261 b261 s0 "coder" "B" iZ := D261 (Or.inr (w17 hw)) (ty := .byte) (by decide)
      refine o_dup W261 228 (hb hy at_227) rfl rfl <| o_aload W261 230 (hb hy at_228) rfl rfl rfl ?_
      have c262 := (V260.ext E261)
      have ok263 : own_ok [(60 : Int32), (p3 &&& 255), (62 : Int32), (60 : Int32), (47 : Int32), (p0 &&& 255), (62 : Int32)] := ⟨by simp only [List.mem_cons, List.not_mem_nil, or_false, forall_eq_or_imp, forall_eq, false_imp_iff, implies_true]; exact ⟨(by unfold own_b; decide), (own_b255 _), (by unfold own_b; decide), (by unfold own_b; decide), (by unfold own_b; decide), (own_b255 _), (by unfold own_b; decide)⟩, Nat.le_of_ble_eq_true rfl⟩
      have sf264 := own_safeS (EL := consts_1) W261.al A261 Fb261_value
      refine o_special W261 (y := mn1) rfl (w4 hw) (w5 hw) (w6 hw) (by decide) (a := b261) (argsL := [(.ref b253)]) (StrChars.Road.backV (W := 1) W261.2.2.2.1 (own_hV hw) (kI := 4) (w2 hw) (cs := [(60 : Int32), (p3 &&& 255), (62 : Int32), (60 : Int32), (47 : Int32), (p0 &&& 255), (62 : Int32)]) (bs := [((60 : Int32)).toInt8.toInt32, ((p3 &&& 255)).toInt8.toInt32, ((62 : Int32)).toInt8.toInt32, ((60 : Int32)).toInt8.toInt32, ((47 : Int32)).toInt8.toInt32, ((p0 &&& 255)).toInt8.toInt32, ((62 : Int32)).toInt8.toInt32]) (n := 7) (n0 := Z.heap.size) gz261 W261.zs A261 Fb261_value Fb261_coder c262 (SgCS.ext W261.ox) NgCS rfl rfl (by decide) (by decide) ok263.1 rfl (by decide) (by decide)) (by rw [hml]; rfl) (lenOf pd1 rfl) (S := [(.ref b261)]) rfl (by exact Nat.le_of_eq rfl) 233 (hb hy at_230) rfl (cells' := 6) (slots' := 24) rfl rfl (by decide) (by decide) (wy := [b261]) (fun _ _ _ q => ⟨q.2.1, q.2.2.1⟩) (allS ⟨gz261, (Or.inr gb261)⟩ all0) (fun _ K => IW.keep K (sfS sf264 sf0) W261.inv) ?_
      intro v265 T265 h265 lo265 W265 K265 q265
      obtain ⟨rfl, -, -, X265, Fc265, t265, kb265, gz265, ge265, -, Fv265, A265⟩ := q265
      have B265 : Arv Z h265 t265 kb265 .byte 7 [(.int (b8 60)), (.int (b8 (p3 &&& 255))), (.int (b8 62)), (.int (b8 60)), (.int (b8 47)), (.int (b8 (p0 &&& 255))), (.int (b8 62))] iZ := A265
      show Gl _ _ _ _ _ _ _ _ [(.ref b261)]
      refine o_astore W265 (L' := #[vi p0, vi p1, vi p2, vi p3, vi p4, vi 1, vi 1, vi (p0 &&& 255), vi (p1 &&& 255), vi (p2 &&& 255), vi (p3 &&& 255), vr b246, vr b248, vi 3, vr b253, vr b261, un, un, un]) 235 (hb hy at_233) rfl rfl rfl <| o_iconst W265 (v := 0) 236 (hb hy at_235) rfl rfl ?_
      refine o_newR W265 (w1 hw) (w33 hw) (fun _ E => IW.ext E W265.inv) (by decide) (cap := 0) (by decide) (by decide) 239 (hb hy at_236) rfl (cells' := 7) (slots' := 24) rfl rfl (by decide) (by decide) (vs := []) rfl ?_
      intro b266 T266 h266 k266 W266 E266 ge266 gz266 gb266 V266 O266
      refine o_astore W266 (L' := #[vi p0, vi p1, vi p2, vi p3, vi p4, vi 1, vi 1, vi (p0 &&& 255), vi (p1 &&& 255), vi (p2 &&& 255), vi (p3 &&& 255), vr b246, vr b248, vi 3, vr b253, vr b261, vr b266, un, un]) 241 (hb hy at_239) rfl rfl rfl ?_
      refine o_new W266 (w34 hw) (w35 hw) (w36 hw) (fun _ E => IW.ext E W266.inv) 244 (hb hy at_241) rfl (cells' := 8) (slots' := 25) rfl rfl (by decide) (by decide) ?_
      intro b267 T267 h267 W267 E267 ge267 gz267 gb267 A267 D267
      have Fb267_out : Fld Z h267 b267 s4 "out" s5 .null := D267 (Or.inr (w60 hw)) (ty := (.object s2)) (by decide)
      refine o_dup W267 245 (hb hy at_244) rfl rfl ?_
      refine o_specialC W267 rfl (w37 hw) (w38 hw) (w39 hw) (by decide) (w36 hw) (rm5 l hw gCS b267 h267 W267.old SgCS NgCS A267 Fb267_out gz267) 1 10 45 (by decide) (by rw [hml]; rfl) (lenOf pd3 rfl) [(.ref b267)] rfl rfl 248 (hb hy at_245) rfl rfl rfl (allS ⟨gz267, (Or.inr gb267)⟩ all0) (fun _ K => IW.keep K (sfS (Safe.exa W267.al A267 (by decide) (by decide)) sf0) W267.inv) ?_
      intro v268 T268 h268 lo268 W268 K268 q268
      obtain ⟨r1_268, r2_268, r3_268, P268_0, P268_1, P268_2, P268_3, P268_4, P268_5, P268_6, P268_7, rfl⟩ := q268.2.2
      show Gl _ _ _ _ _ _ _ _ [(.ref b267)]
      refine o_astore W268 (L' := #[vi p0, vi p1, vi p2, vi p3, vi p4, vi 1, vi 1, vi (p0 &&& 255), vi (p1 &&& 255), vi (p2 &&& 255), vi (p3 &&& 255), vr b246, vr b248, vi 3, vr b253, vr b261, vr b266, vr b267, un]) 250 (hb hy at_248) rfl rfl rfl <| o_iload W268 252 (hb hy at_250) rfl rfl <| o_ifN W268 255 (hb hy at_252) (XT.i0_eq_f (by decide)) rfl <| o_aload W268 257 (hb hy at_255) rfl rfl rfl <| o_iload W268 259 (hb hy at_257) rfl rfl ?_
      refine o_staticC W268 (w187 hw) (w188 hw) (w3 hw) (w189 hw) (by decide) (rm107 l hw gCS (p3 &&& 255) h268 W268.old SgCS NgCS (own_b255 _)) 1 12 50 (by decide) (by rw [hml]; rfl) (lenOf pd27 rfl) [(.ref b267)] rfl rfl 262 (hb hy at_259) rfl rfl rfl all0 (fun _ K => IW.keep K sf0 W268.inv) ?_
      intro v269 T269 h269 lo269 W269 K269 q269
      obtain ⟨r1_269, r2_269, r3_269, P269_0, P269_1, P269_2, P269_3, P269_4, P269_5, rfl⟩ := q269.2.2
      show Gl _ _ _ _ _ _ _ _ [(.ref r1_269), (.ref b267)]
      have B270 : Arv Z h269 r2_269 r3_269 .byte 1 [(.int (b8 (p3 &&& 255)))] iZ := P269_5
      refine o_aload W269 264 (hb hy at_262) rfl rfl rfl ?_
      have c271 := (((V266.ext E267).keep K268 (ninS (own_ne V266.lt ge267) nin0)).keep K269 nin0)
      have c272 := (P268_2.keep K269 nin0)
      have c273 := (P268_6.keep K269 nin0)
      have c274 := (P268_4.keep K269 nin0)
      have c275 := (P268_7.keep K269 nin0)
      have c276 := (P268_5.keep K269 nin0)
      have c277 := (P268_3.keep K269)
      have c278 := (V266.ext E267)
      have c279 := ((A267.keep K268).keep K269)
      refine o_virtualC W269 (w197 hw) (w198 hw) (o_nf W269 rfl (w200 hw)) (w200 hw) (w199 hw) (by decide) c279 (w201 hw) (w36 hw) (rm120 l hw gCS b267 r1_269 b266 k266 r1_268 r2_268 r3_268 r2_269 r3_269 (p3 &&& 255) h269 W269.old c271 c272 c277 c273 c274 c275 c276 SgCS NgCS (Nat.le_trans W267.zs P268_0) (Nat.le_trans W267.zs P268_1) P269_2 P269_3 B270 (own_ne P268_7.lt P269_1) P269_4 (own_ne c278.lt P268_1) c279) 0 12 50 (by decide) (by rw [hml]; rfl) (lenOf pd28 rfl) [] rfl rfl 267 (hb hy at_264) rfl rfl rfl (allS ⟨(Nat.le_trans W267.zs P268_0), (Or.inr (Nat.le_trans W267.keep.1 P268_0))⟩ (allS ⟨(Nat.le_trans W267.zs P268_1), (Or.inr (Nat.le_trans W267.keep.1 P268_1))⟩ all0)) (fun _ K => IW.keep K (sfS (Safe.exa W269.al c277 (by decide) (by decide)) (sfS (own_safeB W269.2.2.2.1 (n := 16) (by decide) (own_EL16 hw) c275) sf0)) W269.inv) ?_
      intro v280 T280 h280 lo280 W280 K280 q280
      obtain ⟨P280_0, P280_1, P280_2, P280_3, rfl⟩ := q280.2.2
      show Gl _ _ _ _ _ _ _ _ [(.ref b267)]
      refine o_pop W280 268 (hb hy at_267) rfl rfl <| o_aload W280 270 (hb hy at_268) rfl rfl rfl <| o_aload W280 272 (hb hy at_270) rfl rfl rfl ?_
      have c281 := (c272.keep K280 (ninS (own_ne A267.lt P268_0) (ninS (own_ne A267.lt P268_1) nin0)))
      have c282 := ((((((((X252.ext E253).wr R254).wr R255).wr R256).wr R257).wr R258).wr R259).wr R260)
      have c283 := (((c282.ext E261).keep K265).ext E266)
      have c284 := (c283.ext E267)
      have c285 := (((((((((((((((Fv252.ext E253).other R254 (Or.inl (own_ne X252.lt ge253))).other R255 (Or.inl (own_ne X252.lt ge253))).other R256 (Or.inl (own_ne X252.lt ge253))).other R257 (Or.inl (own_ne X252.lt ge253))).other R258 (Or.inl (own_ne X252.lt ge253))).other R259 (Or.inl (own_ne X252.lt ge253))).other R260 (Or.inl (own_ne X252.lt ge253))).ext E261).keep K265 (ninS (own_ne c282.lt ge261) nin0)).ext E266).ext E267).keep K268 (ninS (own_ne c283.lt ge267) nin0)).keep K269 nin0).keep K280 (ninS (own_ne c284.lt P268_0) (ninS (own_ne c284.lt P268_1) nin0)))
      have c286 := ((((((((B252.ext E253).other R254 (own_ne B252.lt ge253)).other R255 (own_ne B252.lt ge253)).other R256 (own_ne B252.lt ge253)).other R257 (own_ne B252.lt ge253)).other R258 (own_ne B252.lt ge253)).other R259 (own_ne B252.lt ge253)).other R260 (own_ne B252.lt ge253))
      have c287 := (((c286.ext E261).keep K265 (ninS (own_ne c286.lt ge261) nin0)).ext E266)
      have c288 := (c287.ext E267)
      have c289 := (((((((((((((((B252.ext E253).other R254 (own_ne B252.lt ge253)).other R255 (own_ne B252.lt ge253)).other R256 (own_ne B252.lt ge253)).other R257 (own_ne B252.lt ge253)).other R258 (own_ne B252.lt ge253)).other R259 (own_ne B252.lt ge253)).other R260 (own_ne B252.lt ge253)).ext E261).keep K265 (ninS (own_ne c286.lt ge261) nin0)).ext E266).ext E267).keep K268 (ninS (own_ne c287.lt ge267) nin0)).keep K269 nin0).keep K280 (ninS (own_ne c288.lt P268_0) (ninS (own_ne c288.lt P268_1) nin0)))
      have c290 := (((((((((((((((Fc252.ext E253).other R254 (Or.inl (own_ne X252.lt ge253))).other R255 (Or.inl (own_ne X252.lt ge253))).other R256 (Or.inl (own_ne X252.lt ge253))).other R257 (Or.inl (own_ne X252.lt ge253))).other R258 (Or.inl (own_ne X252.lt ge253))).other R259 (Or.inl (own_ne X252.lt ge253))).other R260 (Or.inl (own_ne X252.lt ge253))).ext E261).keep K265 (ninS (own_ne c282.lt ge261) nin0)).ext E266).ext E267).keep K268 (ninS (own_ne c283.lt ge267) nin0)).keep K269 nin0).keep K280 (ninS (own_ne c284.lt P268_0) (ninS (own_ne c284.lt P268_1) nin0)))
      have c291 := (c277.keep K280)
      have c292 := (((c284.keep K268).keep K269).keep K280)
      have c293 := (c279.keep K280)
      refine o_virtualW W280 (y := mn17) (z := mn17) (w61 hw) (w62 hw) (o_nf W280 rfl (w64 hw)) (w64 hw) (w63 hw) (by decide) c293 (argsL := [(.ref b248)]) (CtrW.back (Wd := 0) W280 (rm150 l hw gCS b267 b248 r1_268 r2_268 r3_268 (b8 (p3 &&& 255)) t252 kb252 (p0 &&& 255) h280 W280.old c281 c291 SgCS NgCS P280_0 P280_1 P280_2 P280_3 (Nat.le_trans W267.zs P268_1) (Nat.le_trans W267.zs P268_0) c292 c285 c289 (own_ne' c288.lt P268_1) c290) (w65 hw) (w36 hw) (by decide) (by decide) (own_EL hw)) (by rw [hml]; rfl) (lenOf pd15 rfl) (S := []) rfl (by exact Nat.le_of_eq rfl) 275 (hb hy at_272) rfl (cells' := 14) (slots' := 62) rfl rfl (by decide) (by decide) (wy := [r2_268, r1_268]) qf (allS ⟨(Nat.le_trans W267.zs P268_1), (Or.inr (Nat.le_trans W267.keep.1 P268_1))⟩ (allS ⟨(Nat.le_trans W267.zs P268_0), (Or.inr (Nat.le_trans W267.keep.1 P268_0))⟩ all0))  ?_
      intro v294 T294 h294 V294 lo294 W294 K294 C294 q294
      obtain ⟨P294_0, P294_1, P294_2, P294_3, rfl⟩ := q294.2.2
      show Gl _ _ _ _ _ _ _ _ [(.ref b267)]
      refine o_astore W294 (L' := #[vi p0, vi p1, vi p2, vi p3, vi p4, vi 1, vi 1, vi (p0 &&& 255), vi (p1 &&& 255), vi (p2 &&& 255), vi (p3 &&& 255), vr b246, vr b248, vi 3, vr b253, vr b261, vr b266, vr b267, vr b267]) 277 (hb hy at_275) rfl rfl rfl <| o_aload W294 279 (hb hy at_277) rfl rfl rfl <| o_aload W294 281 (hb hy at_279) rfl rfl rfl ?_
      refine o_acmpY W294 286 (hb hy at_281) rfl rfl (XT.aa_eq_t rfl) (by decide) rfl ?_
      refine o_aload W294 288 (hb hy at_286) rfl rfl rfl <| o_aload W294 290 (hb hy at_288) rfl rfl rfl ?_
      have c295 := (c281.keep K294 (ninS (own_ne A267.lt P268_1) (ninS (own_ne A267.lt P268_0) nin0)))
      have c296 := (c291.keep K294)
      have c297 := (c293.keep K294)
      refine o_virtualC W294 (w132 hw) (w133 hw) (o_nf W294 rfl (w135 hw)) (w135 hw) (w134 hw) (by decide) c297 (w136 hw) (w36 hw) (rm160 l hw gCS b267 r1_268 r2_268 r3_268 (b8 (p3 &&& 255)) (b8 60) (b8 47) (b8 (p0 &&& 255)) h294 W294.old c295 c296 P294_1 P294_0 SgCS NgCS P294_3 P294_2) 1 16 73 (by decide) (by rw [hml]; rfl) (lenOf pd22 rfl) [(.ref b261)] rfl rfl 293 (hb hy at_290) rfl rfl rfl all0 (fun _ K => IW.keep K sf0 W294.inv) ?_
      intro v298 T298 h298 lo298 W298 K298 q298
      obtain ⟨r1_298, r2_298, r3_298, P298_0, P298_1, P298_2, P298_3, P298_4, P298_5, rfl⟩ := q298.2.2
      show Gl _ _ _ _ _ _ _ _ [(.ref r1_298), (.ref b261)]
      have c299 := (X265.ext E266)
      have c300 := (c299.ext E267)
      have c301 := (((((((Fc265.ext E266).ext E267).keep K268 (ninS (own_ne c299.lt ge267) nin0)).keep K269 nin0).keep K280 (ninS (own_ne c300.lt P268_0) (ninS (own_ne c300.lt P268_1) nin0))).keep K294 (ninS (own_ne c300.lt P268_1) (ninS (own_ne c300.lt P268_0) nin0))).keep K298 nin0)
      have c302 := (((((((Fv265.ext E266).ext E267).keep K268 (ninS (own_ne c299.lt ge267) nin0)).keep K269 nin0).keep K280 (ninS (own_ne c300.lt P268_0) (ninS (own_ne c300.lt P268_1) nin0))).keep K294 (ninS (own_ne c300.lt P268_1) (ninS (own_ne c300.lt P268_0) nin0))).keep K298 nin0)
      have c303 := (B265.ext E266)
      have c304 := (c303.ext E267)
      have c305 := (((((((B265.ext E266).ext E267).keep K268 (ninS (own_ne c303.lt ge267) nin0)).keep K269 nin0).keep K280 (ninS (own_ne c304.lt P268_0) (ninS (own_ne c304.lt P268_1) nin0))).keep K294 (ninS (own_ne c304.lt P268_1) (ninS (own_ne c304.lt P268_0) nin0))).keep K298 nin0)
      have c306 := (((((c300.keep K268).keep K269).keep K280).keep K294).keep K298)
      have c307 := ((((c300.keep K268).keep K269).keep K280).keep K294)
      refine o_virtualC W298 (w178 hw) (w179 hw) (o_nf W298 rfl (w181 hw)) (w181 hw) (w180 hw) (by decide) c306 (w182 hw) (w3 hw) (rm162 l hw gCS b261 r1_298 t265 r2_298 kb265 (p3 &&& 255) (p0 &&& 255) r3_298 (b8 (p3 &&& 255)) (b8 60) (b8 47) (b8 (p0 &&& 255)) h298 W298.old c306 P298_2 (own_ne c307.lt P298_0) SgCS NgCS c301 P298_4 c302 P298_3 c305 P298_5 rfl rfl rfl rfl) 0 16 73 (by decide) (by rw [hml]; rfl) (lenOf pd24 rfl) [] rfl rfl 296 (hb hy at_293) rfl rfl rfl all0 (fun _ K => IW.keep K sf0 W298.inv) ?_
      intro v308 T308 h308 lo308 W308 K308 q308
      obtain rfl := q308.2.2
      show Gl _ _ _ _ _ _ _ _ [(.int 1)]
      exact o_retNW W308 (own_EL hw) hlk (t := .boolean) hret (by simp) (z' := (1 : Int32)) (by decide) (hb hy at_296) (by decide) (by decide) rfl
    · rw [ek185]
      refine o_iload W0 56 (hb hy at_54) rfl rfl ?_
      refine o_newP W0 (aty := .char) (w0 hw) (fun _ E => IW.ext E W0.inv) (by decide) (cap := 2) (by decide) (by decide) 58 (hb hy at_56) rfl (cells' := 1) (slots' := 2) rfl rfl (by decide) (by decide) (vs := [iZ, iZ]) (dv := iZ) rfl rfl ?_
      intro b309 T309 h309 k309 W309 E309 ge309 gz309 gb309 V309
      refine o_astore W309 (L' := #[vi p0, vi p1, vi p2, vi p3, vi p4, vi 2, vi 1, vi (p0 &&& 255), vi (p1 &&& 255), vi (p2 &&& 255), vi (p3 &&& 255), vr b309, un, un, un, un, un, un, un]) 60 (hb hy at_58) rfl rfl rfl <| o_iload W309 62 (hb hy at_60) rfl rfl <| o_ifN W309 65 (hb hy at_62) (XT.i0_le_f (by decide)) rfl <| o_aload W309 67 (hb hy at_65) rfl rfl rfl <| o_iconst W309 (v := 0) 68 (hb hy at_67) rfl rfl <| o_iload W309 70 (hb hy at_68) rfl rfl ?_
      refine o_stC W309 V309 (i := 0) (x' := (p0 &&& 255)) (by decide) (by decide) (by decide) (Nat.lt_of_sub_eq_succ rfl) (own_i2c (own_b255 _)) (vs' := [(.int (p0 &&& 255)), iZ]) rfl gz309 (Or.inr gb309) (fun _ R => IW.wr R (Safe.arv W309.al V309 (by decide)) W309.inv) 71 (hb hy at_70) rfl ?_
      intro T310 h310 lo310 W310 R310 V310
      refine o_iload W310 73 (hb hy at_71) rfl rfl <| o_iconst W310 (v := 1) 74 (hb hy at_73) rfl rfl <| o_icmpN W310 77 (hb hy at_74) (XT.ii_le_f (by decide)) rfl <| o_aload W310 79 (hb hy at_77) rfl rfl rfl <| o_iconst W310 (v := 1) 80 (hb hy at_79) rfl rfl <| o_iload W310 82 (hb hy at_80) rfl rfl ?_
      refine o_stC W310 V310 (i := 1) (x' := (p1 &&& 255)) (by decide) (by decide) (by decide) (Nat.lt_of_sub_eq_succ rfl) (own_i2c (own_b255 _)) (vs' := [(.int (p0 &&& 255)), (.int (p1 &&& 255))]) rfl gz309 (Or.inr gb309) (fun _ R => IW.wr R (Safe.arv W310.al V310 (by decide)) W310.inv) 83 (hb hy at_82) rfl ?_
      intro T311 h311 lo311 W311 R311 V311
      refine o_iload W311 85 (hb hy at_83) rfl rfl <| o_iconst W311 (v := 2) 86 (hb hy at_85) rfl rfl <| o_icmpY W311 95 (hb hy at_86) (XT.ii_le_t (by decide)) (by decide) rfl ?_
      refine o_new W311 (w1 hw) (w2 hw) (w3 hw) (fun _ E => IW.ext E W311.inv) 98 (hb hy at_95) rfl (cells' := 2) (slots' := 6) rfl rfl (by decide) (by decide) ?_
      intro b312 T312 h312 W312 E312 ge312 gz312 gb312 A312 D312
      have Fb312_value : Fld Z h312 b312 s0 "value" "[B" .null := D312 (Or.inr (w16 hw)) (ty := (.array .byte)) (by decide)
      have Fb312_coder : Fld Z h312 b312 s0 "coder" "B" iZ := D312 (Or.inr (w17 hw)) (ty := .byte) (by decide)
      refine o_dup W312 99 (hb hy at_98) rfl rfl <| o_aload W312 101 (hb hy at_99) rfl rfl rfl ?_
      have c313 := (V311.ext E312)
      have ok314 : own_ok [(p0 &&& 255), (p1 &&& 255)] := ⟨by simp only [List.mem_cons, List.not_mem_nil, or_false, forall_eq_or_imp, forall_eq, false_imp_iff, implies_true]; exact ⟨(own_b255 _), (own_b255 _)⟩, Nat.le_of_ble_eq_true rfl⟩
      have sf315 := own_safeS (EL := consts_1) W312.al A312 Fb312_value
      refine o_special W312 (y := mn1) rfl (w4 hw) (w5 hw) (w6 hw) (by decide) (a := b312) (argsL := [(.ref b309)]) (StrChars.Road.backV (W := 1) W312.2.2.2.1 (own_hV hw) (kI := 4) (w2 hw) (cs := [(p0 &&& 255), (p1 &&& 255)]) (bs := [((p0 &&& 255)).toInt8.toInt32, ((p1 &&& 255)).toInt8.toInt32]) (n := 2) (n0 := Z.heap.size) gz312 W312.zs A312 Fb312_value Fb312_coder c313 (SgCS.ext W312.ox) NgCS rfl rfl (by decide) (by decide) ok314.1 rfl (by decide) (by decide)) (by rw [hml]; rfl) (lenOf pd1 rfl) (S := [(.ref b312)]) rfl (by exact Nat.le_of_eq rfl) 104 (hb hy at_101) rfl (cells' := 3) (slots' := 8) rfl rfl (by decide) (by decide) (wy := [b312]) (fun _ _ _ q => ⟨q.2.1, q.2.2.1⟩) (allS ⟨gz312, (Or.inr gb312)⟩ all0) (fun _ K => IW.keep K (sfS sf315 sf0) W312.inv) ?_
      intro v316 T316 h316 lo316 W316 K316 q316
      obtain ⟨rfl, -, -, X316, Fc316, t316, kb316, gz316, ge316, -, Fv316, A316⟩ := q316
      have B316 : Arv Z h316 t316 kb316 .byte 2 [(.int (b8 (p0 &&& 255))), (.int (b8 (p1 &&& 255)))] iZ := A316
      show Gl _ _ _ _ _ _ _ _ [(.ref b312)]
      refine o_astore W316 (L' := #[vi p0, vi p1, vi p2, vi p3, vi p4, vi 2, vi 1, vi (p0 &&& 255), vi (p1 &&& 255), vi (p2 &&& 255), vi (p3 &&& 255), vr b309, vr b312, un, un, un, un, un, un]) 106 (hb hy at_104) rfl rfl rfl <| o_iload W316 108 (hb hy at_106) rfl rfl <| o_ifN W316 111 (hb hy at_108) (XT.i0_eq_f (by decide)) rfl <| o_iconst W316 (v := 3) 112 (hb hy at_111) rfl rfl <| o_goto W316 116 (hb hy at_112) (by decide) rfl <| o_istore W316 (L' := #[vi p0, vi p1, vi p2, vi p3, vi p4, vi 2, vi 1, vi (p0 &&& 255), vi (p1 &&& 255), vi (p2 &&& 255), vi (p3 &&& 255), vr b309, vr b312, vi 3, un, un, un, un, un]) 118 (hb hy at_116) rfl rfl ?_
      refine o_iload W316 120 (hb hy at_118) rfl rfl <| o_iload W316 122 (hb hy at_120) rfl rfl <| o_iadd W316 (v := 5) 123 (hb hy at_122) (by decide) rfl <| o_iconst W316 (v := 3) 124 (hb hy at_123) rfl rfl <| o_iadd W316 (v := 8) 125 (hb hy at_124) (by decide) rfl ?_
      refine o_newP W316 (aty := .char) (w0 hw) (fun _ E => IW.ext E W316.inv) (by decide) (cap := 8) (by decide) (by decide) 127 (hb hy at_125) rfl (cells' := 4) (slots' := 16) rfl rfl (by decide) (by decide) (vs := [iZ, iZ, iZ, iZ, iZ, iZ, iZ, iZ]) (dv := iZ) rfl rfl ?_
      intro b317 T317 h317 k317 W317 E317 ge317 gz317 gb317 V317
      refine o_astore W317 (L' := #[vi p0, vi p1, vi p2, vi p3, vi p4, vi 2, vi 1, vi (p0 &&& 255), vi (p1 &&& 255), vi (p2 &&& 255), vi (p3 &&& 255), vr b309, vr b312, vi 3, vr b317, un, un, un, un]) 129 (hb hy at_127) rfl rfl rfl <| o_iload W317 131 (hb hy at_129) rfl rfl <| o_ifN W317 134 (hb hy at_131) (XT.i0_eq_f (by decide)) rfl <| o_aload W317 136 (hb hy at_134) rfl rfl rfl <| o_iconst W317 (v := 0) 137 (hb hy at_136) rfl rfl <| o_bipush W317 (v := 60) 139 (hb hy at_137) (by decide) rfl ?_
      refine o_stC W317 V317 (i := 0) (x' := (60 : Int32)) (by decide) (by decide) (by decide) (Nat.lt_of_sub_eq_succ rfl) (by decide) (vs' := [(.int 60), iZ, iZ, iZ, iZ, iZ, iZ, iZ]) rfl gz317 (Or.inr gb317) (fun _ R => IW.wr R (Safe.arv W317.al V317 (by decide)) W317.inv) 140 (hb hy at_139) rfl ?_
      intro T318 h318 lo318 W318 R318 V318
      refine o_aload W318 142 (hb hy at_140) rfl rfl rfl <| o_iconst W318 (v := 1) 143 (hb hy at_142) rfl rfl <| o_iload W318 145 (hb hy at_143) rfl rfl ?_
      refine o_stC W318 V318 (i := 1) (x' := (p3 &&& 255)) (by decide) (by decide) (by decide) (Nat.lt_of_sub_eq_succ rfl) (own_i2c (own_b255 _)) (vs' := [(.int 60), (.int (p3 &&& 255)), iZ, iZ, iZ, iZ, iZ, iZ]) rfl gz317 (Or.inr gb317) (fun _ R => IW.wr R (Safe.arv W318.al V318 (by decide)) W318.inv) 146 (hb hy at_145) rfl ?_
      intro T319 h319 lo319 W319 R319 V319
      refine o_aload W319 148 (hb hy at_146) rfl rfl rfl <| o_iconst W319 (v := 2) 149 (hb hy at_148) rfl rfl <| o_bipush W319 (v := 62) 151 (hb hy at_149) (by decide) rfl ?_
      refine o_stC W319 V319 (i := 2) (x' := (62 : Int32)) (by decide) (by decide) (by decide) (Nat.lt_of_sub_eq_succ rfl) (by decide) (vs' := [(.int 60), (.int (p3 &&& 255)), (.int 62), iZ, iZ, iZ, iZ, iZ]) rfl gz317 (Or.inr gb317) (fun _ R => IW.wr R (Safe.arv W319.al V319 (by decide)) W319.inv) 152 (hb hy at_151) rfl ?_
      intro T320 h320 lo320 W320 R320 V320
      refine o_aload W320 154 (hb hy at_152) rfl rfl rfl <| o_iload W320 156 (hb hy at_154) rfl rfl <| o_bipush W320 (v := 60) 158 (hb hy at_156) (by decide) rfl ?_
      refine o_stC W320 V320 (i := 3) (x' := (60 : Int32)) (by decide) (by decide) (by decide) (Nat.lt_of_sub_eq_succ rfl) (by decide) (vs' := [(.int 60), (.int (p3 &&& 255)), (.int 62), (.int 60), iZ, iZ, iZ, iZ]) rfl gz317 (Or.inr gb317) (fun _ R => IW.wr R (Safe.arv W320.al V320 (by decide)) W320.inv) 159 (hb hy at_158) rfl ?_
      intro T321 h321 lo321 W321 R321 V321
      refine o_aload W321 161 (hb hy at_159) rfl rfl rfl <| o_iload W321 163 (hb hy at_161) rfl rfl <| o_iconst W321 (v := 1) 164 (hb hy at_163) rfl rfl <| o_iadd W321 (v := 4) 165 (hb hy at_164) (by decide) rfl <| o_bipush W321 (v := 47) 167 (hb hy at_165) (by decide) rfl ?_
      refine o_stC W321 V321 (i := 4) (x' := (47 : Int32)) (by decide) (by decide) (by decide) (Nat.lt_of_sub_eq_succ rfl) (by decide) (vs' := [(.int 60), (.int (p3 &&& 255)), (.int 62), (.int 60), (.int 47), iZ, iZ, iZ]) rfl gz317 (Or.inr gb317) (fun _ R => IW.wr R (Safe.arv W321.al V321 (by decide)) W321.inv) 168 (hb hy at_167) rfl ?_
      intro T322 h322 lo322 W322 R322 V322
      refine o_iload W322 170 (hb hy at_168) rfl rfl <| o_ifN W322 173 (hb hy at_170) (XT.i0_le_f (by decide)) rfl <| o_aload W322 175 (hb hy at_173) rfl rfl rfl <| o_iload W322 177 (hb hy at_175) rfl rfl <| o_iconst W322 (v := 2) 178 (hb hy at_177) rfl rfl <| o_iadd W322 (v := 5) 179 (hb hy at_178) (by decide) rfl ?_
      refine o_iload W322 181 (hb hy at_179) rfl rfl ?_
      refine o_stC W322 V322 (i := 5) (x' := (p0 &&& 255)) (by decide) (by decide) (by decide) (Nat.lt_of_sub_eq_succ rfl) (own_i2c (own_b255 _)) (vs' := [(.int 60), (.int (p3 &&& 255)), (.int 62), (.int 60), (.int 47), (.int (p0 &&& 255)), iZ, iZ]) rfl gz317 (Or.inr gb317) (fun _ R => IW.wr R (Safe.arv W322.al V322 (by decide)) W322.inv) 182 (hb hy at_181) rfl ?_
      intro T323 h323 lo323 W323 R323 V323
      refine o_iload W323 184 (hb hy at_182) rfl rfl <| o_iconst W323 (v := 1) 185 (hb hy at_184) rfl rfl <| o_icmpN W323 188 (hb hy at_185) (XT.ii_le_f (by decide)) rfl <| o_aload W323 190 (hb hy at_188) rfl rfl rfl <| o_iload W323 192 (hb hy at_190) rfl rfl <| o_iconst W323 (v := 3) 193 (hb hy at_192) rfl rfl ?_
      refine o_iadd W323 (v := 6) 194 (hb hy at_193) (by decide) rfl <| o_iload W323 196 (hb hy at_194) rfl rfl ?_
      refine o_stC W323 V323 (i := 6) (x' := (p1 &&& 255)) (by decide) (by decide) (by decide) (Nat.lt_of_sub_eq_succ rfl) (own_i2c (own_b255 _)) (vs' := [(.int 60), (.int (p3 &&& 255)), (.int 62), (.int 60), (.int 47), (.int (p0 &&& 255)), (.int (p1 &&& 255)), iZ]) rfl gz317 (Or.inr gb317) (fun _ R => IW.wr R (Safe.arv W323.al V323 (by decide)) W323.inv) 197 (hb hy at_196) rfl ?_
      intro T324 h324 lo324 W324 R324 V324
      refine o_iload W324 199 (hb hy at_197) rfl rfl <| o_iconst W324 (v := 2) 200 (hb hy at_199) rfl rfl <| o_icmpY W324 212 (hb hy at_200) (XT.ii_le_t (by decide)) (by decide) rfl <| o_aload W324 214 (hb hy at_212) rfl rfl rfl <| o_iload W324 216 (hb hy at_214) rfl rfl <| o_iconst W324 (v := 2) 217 (hb hy at_216) rfl rfl ?_
      refine o_iadd W324 (v := 5) 218 (hb hy at_217) (by decide) rfl <| o_iload W324 220 (hb hy at_218) rfl rfl <| o_iadd W324 (v := 7) 221 (hb hy at_220) (by decide) rfl <| o_bipush W324 (v := 62) 223 (hb hy at_221) (by decide) rfl ?_
      refine o_stC W324 V324 (i := 7) (x' := (62 : Int32)) (by decide) (by decide) (by decide) (Nat.lt_of_sub_eq_succ rfl) (by decide) (vs' := [(.int 60), (.int (p3 &&& 255)), (.int 62), (.int 60), (.int 47), (.int (p0 &&& 255)), (.int (p1 &&& 255)), (.int 62)]) rfl gz317 (Or.inr gb317) (fun _ R => IW.wr R (Safe.arv W324.al V324 (by decide)) W324.inv) 224 (hb hy at_223) rfl ?_
      intro T325 h325 lo325 W325 R325 V325
      refine o_new W325 (w1 hw) (w2 hw) (w3 hw) (fun _ E => IW.ext E W325.inv) 227 (hb hy at_224) rfl (cells' := 5) (slots' := 20) rfl rfl (by decide) (by decide) ?_
      intro b326 T326 h326 W326 E326 ge326 gz326 gb326 A326 D326
      have Fb326_value : Fld Z h326 b326 s0 "value" "[B" .null := D326 (Or.inr (w16 hw)) (ty := (.array .byte)) (by decide)
      have Fb326_coder : Fld Z h326 b326 s0 "coder" "B" iZ := D326 (Or.inr (w17 hw)) (ty := .byte) (by decide)
      refine o_dup W326 228 (hb hy at_227) rfl rfl <| o_aload W326 230 (hb hy at_228) rfl rfl rfl ?_
      have c327 := (V325.ext E326)
      have ok328 : own_ok [(60 : Int32), (p3 &&& 255), (62 : Int32), (60 : Int32), (47 : Int32), (p0 &&& 255), (p1 &&& 255), (62 : Int32)] := ⟨by simp only [List.mem_cons, List.not_mem_nil, or_false, forall_eq_or_imp, forall_eq, false_imp_iff, implies_true]; exact ⟨(by unfold own_b; decide), (own_b255 _), (by unfold own_b; decide), (by unfold own_b; decide), (by unfold own_b; decide), (own_b255 _), (own_b255 _), (by unfold own_b; decide)⟩, Nat.le_of_ble_eq_true rfl⟩
      have sf329 := own_safeS (EL := consts_1) W326.al A326 Fb326_value
      refine o_special W326 (y := mn1) rfl (w4 hw) (w5 hw) (w6 hw) (by decide) (a := b326) (argsL := [(.ref b317)]) (StrChars.Road.backV (W := 1) W326.2.2.2.1 (own_hV hw) (kI := 4) (w2 hw) (cs := [(60 : Int32), (p3 &&& 255), (62 : Int32), (60 : Int32), (47 : Int32), (p0 &&& 255), (p1 &&& 255), (62 : Int32)]) (bs := [((60 : Int32)).toInt8.toInt32, ((p3 &&& 255)).toInt8.toInt32, ((62 : Int32)).toInt8.toInt32, ((60 : Int32)).toInt8.toInt32, ((47 : Int32)).toInt8.toInt32, ((p0 &&& 255)).toInt8.toInt32, ((p1 &&& 255)).toInt8.toInt32, ((62 : Int32)).toInt8.toInt32]) (n := 8) (n0 := Z.heap.size) gz326 W326.zs A326 Fb326_value Fb326_coder c327 (SgCS.ext W326.ox) NgCS rfl rfl (by decide) (by decide) ok328.1 rfl (by decide) (by decide)) (by rw [hml]; rfl) (lenOf pd1 rfl) (S := [(.ref b326)]) rfl (by exact Nat.le_of_eq rfl) 233 (hb hy at_230) rfl (cells' := 6) (slots' := 28) rfl rfl (by decide) (by decide) (wy := [b326]) (fun _ _ _ q => ⟨q.2.1, q.2.2.1⟩) (allS ⟨gz326, (Or.inr gb326)⟩ all0) (fun _ K => IW.keep K (sfS sf329 sf0) W326.inv) ?_
      intro v330 T330 h330 lo330 W330 K330 q330
      obtain ⟨rfl, -, -, X330, Fc330, t330, kb330, gz330, ge330, -, Fv330, A330⟩ := q330
      have B330 : Arv Z h330 t330 kb330 .byte 8 [(.int (b8 60)), (.int (b8 (p3 &&& 255))), (.int (b8 62)), (.int (b8 60)), (.int (b8 47)), (.int (b8 (p0 &&& 255))), (.int (b8 (p1 &&& 255))), (.int (b8 62))] iZ := A330
      show Gl _ _ _ _ _ _ _ _ [(.ref b326)]
      refine o_astore W330 (L' := #[vi p0, vi p1, vi p2, vi p3, vi p4, vi 2, vi 1, vi (p0 &&& 255), vi (p1 &&& 255), vi (p2 &&& 255), vi (p3 &&& 255), vr b309, vr b312, vi 3, vr b317, vr b326, un, un, un]) 235 (hb hy at_233) rfl rfl rfl <| o_iconst W330 (v := 0) 236 (hb hy at_235) rfl rfl ?_
      refine o_newR W330 (w1 hw) (w33 hw) (fun _ E => IW.ext E W330.inv) (by decide) (cap := 0) (by decide) (by decide) 239 (hb hy at_236) rfl (cells' := 7) (slots' := 28) rfl rfl (by decide) (by decide) (vs := []) rfl ?_
      intro b331 T331 h331 k331 W331 E331 ge331 gz331 gb331 V331 O331
      refine o_astore W331 (L' := #[vi p0, vi p1, vi p2, vi p3, vi p4, vi 2, vi 1, vi (p0 &&& 255), vi (p1 &&& 255), vi (p2 &&& 255), vi (p3 &&& 255), vr b309, vr b312, vi 3, vr b317, vr b326, vr b331, un, un]) 241 (hb hy at_239) rfl rfl rfl ?_
      refine o_new W331 (w34 hw) (w35 hw) (w36 hw) (fun _ E => IW.ext E W331.inv) 244 (hb hy at_241) rfl (cells' := 8) (slots' := 29) rfl rfl (by decide) (by decide) ?_
      intro b332 T332 h332 W332 E332 ge332 gz332 gb332 A332 D332
      have Fb332_out : Fld Z h332 b332 s4 "out" s5 .null := D332 (Or.inr (w60 hw)) (ty := (.object s2)) (by decide)
      refine o_dup W332 245 (hb hy at_244) rfl rfl ?_
      refine o_specialC W332 rfl (w37 hw) (w38 hw) (w39 hw) (by decide) (w36 hw) (rm5 l hw gCS b332 h332 W332.old SgCS NgCS A332 Fb332_out gz332) 1 10 49 (by decide) (by rw [hml]; rfl) (lenOf pd3 rfl) [(.ref b332)] rfl rfl 248 (hb hy at_245) rfl rfl rfl (allS ⟨gz332, (Or.inr gb332)⟩ all0) (fun _ K => IW.keep K (sfS (Safe.exa W332.al A332 (by decide) (by decide)) sf0) W332.inv) ?_
      intro v333 T333 h333 lo333 W333 K333 q333
      obtain ⟨r1_333, r2_333, r3_333, P333_0, P333_1, P333_2, P333_3, P333_4, P333_5, P333_6, P333_7, rfl⟩ := q333.2.2
      show Gl _ _ _ _ _ _ _ _ [(.ref b332)]
      refine o_astore W333 (L' := #[vi p0, vi p1, vi p2, vi p3, vi p4, vi 2, vi 1, vi (p0 &&& 255), vi (p1 &&& 255), vi (p2 &&& 255), vi (p3 &&& 255), vr b309, vr b312, vi 3, vr b317, vr b326, vr b331, vr b332, un]) 250 (hb hy at_248) rfl rfl rfl <| o_iload W333 252 (hb hy at_250) rfl rfl <| o_ifN W333 255 (hb hy at_252) (XT.i0_eq_f (by decide)) rfl <| o_aload W333 257 (hb hy at_255) rfl rfl rfl <| o_iload W333 259 (hb hy at_257) rfl rfl ?_
      refine o_staticC W333 (w187 hw) (w188 hw) (w3 hw) (w189 hw) (by decide) (rm107 l hw gCS (p3 &&& 255) h333 W333.old SgCS NgCS (own_b255 _)) 1 12 54 (by decide) (by rw [hml]; rfl) (lenOf pd27 rfl) [(.ref b332)] rfl rfl 262 (hb hy at_259) rfl rfl rfl all0 (fun _ K => IW.keep K sf0 W333.inv) ?_
      intro v334 T334 h334 lo334 W334 K334 q334
      obtain ⟨r1_334, r2_334, r3_334, P334_0, P334_1, P334_2, P334_3, P334_4, P334_5, rfl⟩ := q334.2.2
      show Gl _ _ _ _ _ _ _ _ [(.ref r1_334), (.ref b332)]
      have B335 : Arv Z h334 r2_334 r3_334 .byte 1 [(.int (b8 (p3 &&& 255)))] iZ := P334_5
      refine o_aload W334 264 (hb hy at_262) rfl rfl rfl ?_
      have c336 := (((V331.ext E332).keep K333 (ninS (own_ne V331.lt ge332) nin0)).keep K334 nin0)
      have c337 := (P333_2.keep K334 nin0)
      have c338 := (P333_6.keep K334 nin0)
      have c339 := (P333_4.keep K334 nin0)
      have c340 := (P333_7.keep K334 nin0)
      have c341 := (P333_5.keep K334 nin0)
      have c342 := (P333_3.keep K334)
      have c343 := (V331.ext E332)
      have c344 := ((A332.keep K333).keep K334)
      refine o_virtualC W334 (w197 hw) (w198 hw) (o_nf W334 rfl (w200 hw)) (w200 hw) (w199 hw) (by decide) c344 (w201 hw) (w36 hw) (rm120 l hw gCS b332 r1_334 b331 k331 r1_333 r2_333 r3_333 r2_334 r3_334 (p3 &&& 255) h334 W334.old c336 c337 c342 c338 c339 c340 c341 SgCS NgCS (Nat.le_trans W332.zs P333_0) (Nat.le_trans W332.zs P333_1) P334_2 P334_3 B335 (own_ne P333_7.lt P334_1) P334_4 (own_ne c343.lt P333_1) c344) 0 12 54 (by decide) (by rw [hml]; rfl) (lenOf pd28 rfl) [] rfl rfl 267 (hb hy at_264) rfl rfl rfl (allS ⟨(Nat.le_trans W332.zs P333_0), (Or.inr (Nat.le_trans W332.keep.1 P333_0))⟩ (allS ⟨(Nat.le_trans W332.zs P333_1), (Or.inr (Nat.le_trans W332.keep.1 P333_1))⟩ all0)) (fun _ K => IW.keep K (sfS (Safe.exa W334.al c342 (by decide) (by decide)) (sfS (own_safeB W334.2.2.2.1 (n := 16) (by decide) (own_EL16 hw) c340) sf0)) W334.inv) ?_
      intro v345 T345 h345 lo345 W345 K345 q345
      obtain ⟨P345_0, P345_1, P345_2, P345_3, rfl⟩ := q345.2.2
      show Gl _ _ _ _ _ _ _ _ [(.ref b332)]
      refine o_pop W345 268 (hb hy at_267) rfl rfl <| o_aload W345 270 (hb hy at_268) rfl rfl rfl <| o_aload W345 272 (hb hy at_270) rfl rfl rfl ?_
      have c346 := (c337.keep K345 (ninS (own_ne A332.lt P333_0) (ninS (own_ne A332.lt P333_1) nin0)))
      have c347 := (((((((((X316.ext E317).wr R318).wr R319).wr R320).wr R321).wr R322).wr R323).wr R324).wr R325)
      have c348 := (((c347.ext E326).keep K330).ext E331)
      have c349 := (c348.ext E332)
      have c350 := ((((((((((((((((Fv316.ext E317).other R318 (Or.inl (own_ne X316.lt ge317))).other R319 (Or.inl (own_ne X316.lt ge317))).other R320 (Or.inl (own_ne X316.lt ge317))).other R321 (Or.inl (own_ne X316.lt ge317))).other R322 (Or.inl (own_ne X316.lt ge317))).other R323 (Or.inl (own_ne X316.lt ge317))).other R324 (Or.inl (own_ne X316.lt ge317))).other R325 (Or.inl (own_ne X316.lt ge317))).ext E326).keep K330 (ninS (own_ne c347.lt ge326) nin0)).ext E331).ext E332).keep K333 (ninS (own_ne c348.lt ge332) nin0)).keep K334 nin0).keep K345 (ninS (own_ne c349.lt P333_0) (ninS (own_ne c349.lt P333_1) nin0)))
      have c351 := (((((((((B316.ext E317).other R318 (own_ne B316.lt ge317)).other R319 (own_ne B316.lt ge317)).other R320 (own_ne B316.lt ge317)).other R321 (own_ne B316.lt ge317)).other R322 (own_ne B316.lt ge317)).other R323 (own_ne B316.lt ge317)).other R324 (own_ne B316.lt ge317)).other R325 (own_ne B316.lt ge317))
      have c352 := (((c351.ext E326).keep K330 (ninS (own_ne c351.lt ge326) nin0)).ext E331)
      have c353 := (c352.ext E332)
      have c354 := ((((((((((((((((B316.ext E317).other R318 (own_ne B316.lt ge317)).other R319 (own_ne B316.lt ge317)).other R320 (own_ne B316.lt ge317)).other R321 (own_ne B316.lt ge317)).other R322 (own_ne B316.lt ge317)).other R323 (own_ne B316.lt ge317)).other R324 (own_ne B316.lt ge317)).other R325 (own_ne B316.lt ge317)).ext E326).keep K330 (ninS (own_ne c351.lt ge326) nin0)).ext E331).ext E332).keep K333 (ninS (own_ne c352.lt ge332) nin0)).keep K334 nin0).keep K345 (ninS (own_ne c353.lt P333_0) (ninS (own_ne c353.lt P333_1) nin0)))
      have c355 := ((((((((((((((((Fc316.ext E317).other R318 (Or.inl (own_ne X316.lt ge317))).other R319 (Or.inl (own_ne X316.lt ge317))).other R320 (Or.inl (own_ne X316.lt ge317))).other R321 (Or.inl (own_ne X316.lt ge317))).other R322 (Or.inl (own_ne X316.lt ge317))).other R323 (Or.inl (own_ne X316.lt ge317))).other R324 (Or.inl (own_ne X316.lt ge317))).other R325 (Or.inl (own_ne X316.lt ge317))).ext E326).keep K330 (ninS (own_ne c347.lt ge326) nin0)).ext E331).ext E332).keep K333 (ninS (own_ne c348.lt ge332) nin0)).keep K334 nin0).keep K345 (ninS (own_ne c349.lt P333_0) (ninS (own_ne c349.lt P333_1) nin0)))
      have c356 := (c342.keep K345)
      have c357 := (((c349.keep K333).keep K334).keep K345)
      have c358 := (c344.keep K345)
      refine o_virtualW W345 (y := mn17) (z := mn17) (w61 hw) (w62 hw) (o_nf W345 rfl (w64 hw)) (w64 hw) (w63 hw) (by decide) c358 (argsL := [(.ref b312)]) (CtrW.back (Wd := 0) W345 (rm171 l hw gCS b332 b312 r1_333 r2_333 r3_333 (b8 (p3 &&& 255)) t316 kb316 (p0 &&& 255) (p1 &&& 255) h345 W345.old c346 c356 SgCS NgCS P345_0 P345_1 P345_2 P345_3 (Nat.le_trans W332.zs P333_1) (Nat.le_trans W332.zs P333_0) c357 c350 c354 (own_ne' c353.lt P333_1) c355) (w65 hw) (w36 hw) (by decide) (by decide) (own_EL hw)) (by rw [hml]; rfl) (lenOf pd15 rfl) (S := []) rfl (by exact Nat.le_of_eq rfl) 275 (hb hy at_272) rfl (cells' := 14) (slots' := 66) rfl rfl (by decide) (by decide) (wy := [r2_333, r1_333]) qf (allS ⟨(Nat.le_trans W332.zs P333_1), (Or.inr (Nat.le_trans W332.keep.1 P333_1))⟩ (allS ⟨(Nat.le_trans W332.zs P333_0), (Or.inr (Nat.le_trans W332.keep.1 P333_0))⟩ all0))  ?_
      intro v359 T359 h359 V359 lo359 W359 K359 C359 q359
      obtain ⟨P359_0, P359_1, P359_2, P359_3, rfl⟩ := q359.2.2
      show Gl _ _ _ _ _ _ _ _ [(.ref b332)]
      refine o_astore W359 (L' := #[vi p0, vi p1, vi p2, vi p3, vi p4, vi 2, vi 1, vi (p0 &&& 255), vi (p1 &&& 255), vi (p2 &&& 255), vi (p3 &&& 255), vr b309, vr b312, vi 3, vr b317, vr b326, vr b331, vr b332, vr b332]) 277 (hb hy at_275) rfl rfl rfl <| o_aload W359 279 (hb hy at_277) rfl rfl rfl <| o_aload W359 281 (hb hy at_279) rfl rfl rfl ?_
      refine o_acmpY W359 286 (hb hy at_281) rfl rfl (XT.aa_eq_t rfl) (by decide) rfl ?_
      refine o_aload W359 288 (hb hy at_286) rfl rfl rfl <| o_aload W359 290 (hb hy at_288) rfl rfl rfl ?_
      have c360 := (c346.keep K359 (ninS (own_ne A332.lt P333_1) (ninS (own_ne A332.lt P333_0) nin0)))
      have c361 := (c356.keep K359)
      have c362 := (c358.keep K359)
      refine o_virtualC W359 (w132 hw) (w133 hw) (o_nf W359 rfl (w135 hw)) (w135 hw) (w134 hw) (by decide) c362 (w136 hw) (w36 hw) (rm181 l hw gCS b332 r1_333 r2_333 r3_333 (b8 (p3 &&& 255)) (b8 60) (b8 47) (b8 (p0 &&& 255)) (b8 (p1 &&& 255)) h359 W359.old c360 c361 P359_1 P359_0 SgCS NgCS P359_3 P359_2) 1 16 78 (by decide) (by rw [hml]; rfl) (lenOf pd22 rfl) [(.ref b326)] rfl rfl 293 (hb hy at_290) rfl rfl rfl all0 (fun _ K => IW.keep K sf0 W359.inv) ?_
      intro v363 T363 h363 lo363 W363 K363 q363
      obtain ⟨r1_363, r2_363, r3_363, P363_0, P363_1, P363_2, P363_3, P363_4, P363_5, rfl⟩ := q363.2.2
      show Gl _ _ _ _ _ _ _ _ [(.ref r1_363), (.ref b326)]
      have c364 := (X330.ext E331)
      have c365 := (c364.ext E332)
      have c366 := (((((((Fc330.ext E331).ext E332).keep K333 (ninS (own_ne c364.lt ge332) nin0)).keep K334 nin0).keep K345 (ninS (own_ne c365.lt P333_0) (ninS (own_ne c365.lt P333_1) nin0))).keep K359 (ninS (own_ne c365.lt P333_1) (ninS (own_ne c365.lt P333_0) nin0))).keep K363 nin0)
      have c367 := (((((((Fv330.ext E331).ext E332).keep K333 (ninS (own_ne c364.lt ge332) nin0)).keep K334 nin0).keep K345 (ninS (own_ne c365.lt P333_0) (ninS (own_ne c365.lt P333_1) nin0))).keep K359 (ninS (own_ne c365.lt P333_1) (ninS (own_ne c365.lt P333_0) nin0))).keep K363 nin0)
      have c368 := (B330.ext E331)
      have c369 := (c368.ext E332)
      have c370 := (((((((B330.ext E331).ext E332).keep K333 (ninS (own_ne c368.lt ge332) nin0)).keep K334 nin0).keep K345 (ninS (own_ne c369.lt P333_0) (ninS (own_ne c369.lt P333_1) nin0))).keep K359 (ninS (own_ne c369.lt P333_1) (ninS (own_ne c369.lt P333_0) nin0))).keep K363 nin0)
      have c371 := (((((c365.keep K333).keep K334).keep K345).keep K359).keep K363)
      have c372 := ((((c365.keep K333).keep K334).keep K345).keep K359)
      refine o_virtualC W363 (w178 hw) (w179 hw) (o_nf W363 rfl (w181 hw)) (w181 hw) (w180 hw) (by decide) c371 (w182 hw) (w3 hw) (rm183 l hw gCS b326 r1_363 t330 r2_363 kb330 (p3 &&& 255) (p0 &&& 255) (p1 &&& 255) r3_363 (b8 (p3 &&& 255)) (b8 60) (b8 47) (b8 (p0 &&& 255)) (b8 (p1 &&& 255)) h363 W363.old c371 P363_2 (own_ne c372.lt P363_0) SgCS NgCS c366 P363_4 c367 P363_3 c370 P363_5 rfl rfl rfl rfl rfl) 0 16 78 (by decide) (by rw [hml]; rfl) (lenOf pd24 rfl) [] rfl rfl 296 (hb hy at_293) rfl rfl rfl all0 (fun _ K => IW.keep K sf0 W363.inv) ?_
      intro v373 T373 h373 lo373 W373 K373 q373
      obtain rfl := q373.2.2
      show Gl _ _ _ _ _ _ _ _ [(.int 1)]
      exact o_retNW W373 (own_EL hw) hlk (t := .boolean) hret (by simp) (z' := (1 : Int32)) (by decide) (hb hy at_296) (by decide) (by decide) rfl
    · rw [ek185]
      refine o_iload W0 56 (hb hy at_54) rfl rfl ?_
      refine o_newP W0 (aty := .char) (w0 hw) (fun _ E => IW.ext E W0.inv) (by decide) (cap := 3) (by decide) (by decide) 58 (hb hy at_56) rfl (cells' := 1) (slots' := 3) rfl rfl (by decide) (by decide) (vs := [iZ, iZ, iZ]) (dv := iZ) rfl rfl ?_
      intro b374 T374 h374 k374 W374 E374 ge374 gz374 gb374 V374
      refine o_astore W374 (L' := #[vi p0, vi p1, vi p2, vi p3, vi p4, vi 3, vi 1, vi (p0 &&& 255), vi (p1 &&& 255), vi (p2 &&& 255), vi (p3 &&& 255), vr b374, un, un, un, un, un, un, un]) 60 (hb hy at_58) rfl rfl rfl <| o_iload W374 62 (hb hy at_60) rfl rfl <| o_ifN W374 65 (hb hy at_62) (XT.i0_le_f (by decide)) rfl <| o_aload W374 67 (hb hy at_65) rfl rfl rfl <| o_iconst W374 (v := 0) 68 (hb hy at_67) rfl rfl <| o_iload W374 70 (hb hy at_68) rfl rfl ?_
      refine o_stC W374 V374 (i := 0) (x' := (p0 &&& 255)) (by decide) (by decide) (by decide) (Nat.lt_of_sub_eq_succ rfl) (own_i2c (own_b255 _)) (vs' := [(.int (p0 &&& 255)), iZ, iZ]) rfl gz374 (Or.inr gb374) (fun _ R => IW.wr R (Safe.arv W374.al V374 (by decide)) W374.inv) 71 (hb hy at_70) rfl ?_
      intro T375 h375 lo375 W375 R375 V375
      refine o_iload W375 73 (hb hy at_71) rfl rfl <| o_iconst W375 (v := 1) 74 (hb hy at_73) rfl rfl <| o_icmpN W375 77 (hb hy at_74) (XT.ii_le_f (by decide)) rfl <| o_aload W375 79 (hb hy at_77) rfl rfl rfl <| o_iconst W375 (v := 1) 80 (hb hy at_79) rfl rfl <| o_iload W375 82 (hb hy at_80) rfl rfl ?_
      refine o_stC W375 V375 (i := 1) (x' := (p1 &&& 255)) (by decide) (by decide) (by decide) (Nat.lt_of_sub_eq_succ rfl) (own_i2c (own_b255 _)) (vs' := [(.int (p0 &&& 255)), (.int (p1 &&& 255)), iZ]) rfl gz374 (Or.inr gb374) (fun _ R => IW.wr R (Safe.arv W375.al V375 (by decide)) W375.inv) 83 (hb hy at_82) rfl ?_
      intro T376 h376 lo376 W376 R376 V376
      refine o_iload W376 85 (hb hy at_83) rfl rfl <| o_iconst W376 (v := 2) 86 (hb hy at_85) rfl rfl <| o_icmpN W376 89 (hb hy at_86) (XT.ii_le_f (by decide)) rfl <| o_aload W376 91 (hb hy at_89) rfl rfl rfl <| o_iconst W376 (v := 2) 92 (hb hy at_91) rfl rfl <| o_iload W376 94 (hb hy at_92) rfl rfl ?_
      refine o_stC W376 V376 (i := 2) (x' := (p2 &&& 255)) (by decide) (by decide) (by decide) (Nat.lt_of_sub_eq_succ rfl) (own_i2c (own_b255 _)) (vs' := [(.int (p0 &&& 255)), (.int (p1 &&& 255)), (.int (p2 &&& 255))]) rfl gz374 (Or.inr gb374) (fun _ R => IW.wr R (Safe.arv W376.al V376 (by decide)) W376.inv) 95 (hb hy at_94) rfl ?_
      intro T377 h377 lo377 W377 R377 V377
      refine o_new W377 (w1 hw) (w2 hw) (w3 hw) (fun _ E => IW.ext E W377.inv) 98 (hb hy at_95) rfl (cells' := 2) (slots' := 7) rfl rfl (by decide) (by decide) ?_
      intro b378 T378 h378 W378 E378 ge378 gz378 gb378 A378 D378
      have Fb378_value : Fld Z h378 b378 s0 "value" "[B" .null := D378 (Or.inr (w16 hw)) (ty := (.array .byte)) (by decide)
      have Fb378_coder : Fld Z h378 b378 s0 "coder" "B" iZ := D378 (Or.inr (w17 hw)) (ty := .byte) (by decide)
      refine o_dup W378 99 (hb hy at_98) rfl rfl <| o_aload W378 101 (hb hy at_99) rfl rfl rfl ?_
      have c379 := (V377.ext E378)
      have ok380 : own_ok [(p0 &&& 255), (p1 &&& 255), (p2 &&& 255)] := ⟨by simp only [List.mem_cons, List.not_mem_nil, or_false, forall_eq_or_imp, forall_eq, false_imp_iff, implies_true]; exact ⟨(own_b255 _), (own_b255 _), (own_b255 _)⟩, Nat.le_of_ble_eq_true rfl⟩
      have sf381 := own_safeS (EL := consts_1) W378.al A378 Fb378_value
      refine o_special W378 (y := mn1) rfl (w4 hw) (w5 hw) (w6 hw) (by decide) (a := b378) (argsL := [(.ref b374)]) (StrChars.Road.backV (W := 1) W378.2.2.2.1 (own_hV hw) (kI := 4) (w2 hw) (cs := [(p0 &&& 255), (p1 &&& 255), (p2 &&& 255)]) (bs := [((p0 &&& 255)).toInt8.toInt32, ((p1 &&& 255)).toInt8.toInt32, ((p2 &&& 255)).toInt8.toInt32]) (n := 3) (n0 := Z.heap.size) gz378 W378.zs A378 Fb378_value Fb378_coder c379 (SgCS.ext W378.ox) NgCS rfl rfl (by decide) (by decide) ok380.1 rfl (by decide) (by decide)) (by rw [hml]; rfl) (lenOf pd1 rfl) (S := [(.ref b378)]) rfl (by exact Nat.le_of_eq rfl) 104 (hb hy at_101) rfl (cells' := 3) (slots' := 10) rfl rfl (by decide) (by decide) (wy := [b378]) (fun _ _ _ q => ⟨q.2.1, q.2.2.1⟩) (allS ⟨gz378, (Or.inr gb378)⟩ all0) (fun _ K => IW.keep K (sfS sf381 sf0) W378.inv) ?_
      intro v382 T382 h382 lo382 W382 K382 q382
      obtain ⟨rfl, -, -, X382, Fc382, t382, kb382, gz382, ge382, -, Fv382, A382⟩ := q382
      have B382 : Arv Z h382 t382 kb382 .byte 3 [(.int (b8 (p0 &&& 255))), (.int (b8 (p1 &&& 255))), (.int (b8 (p2 &&& 255)))] iZ := A382
      show Gl _ _ _ _ _ _ _ _ [(.ref b378)]
      refine o_astore W382 (L' := #[vi p0, vi p1, vi p2, vi p3, vi p4, vi 3, vi 1, vi (p0 &&& 255), vi (p1 &&& 255), vi (p2 &&& 255), vi (p3 &&& 255), vr b374, vr b378, un, un, un, un, un, un]) 106 (hb hy at_104) rfl rfl rfl <| o_iload W382 108 (hb hy at_106) rfl rfl <| o_ifN W382 111 (hb hy at_108) (XT.i0_eq_f (by decide)) rfl <| o_iconst W382 (v := 3) 112 (hb hy at_111) rfl rfl <| o_goto W382 116 (hb hy at_112) (by decide) rfl <| o_istore W382 (L' := #[vi p0, vi p1, vi p2, vi p3, vi p4, vi 3, vi 1, vi (p0 &&& 255), vi (p1 &&& 255), vi (p2 &&& 255), vi (p3 &&& 255), vr b374, vr b378, vi 3, un, un, un, un, un]) 118 (hb hy at_116) rfl rfl ?_
      refine o_iload W382 120 (hb hy at_118) rfl rfl <| o_iload W382 122 (hb hy at_120) rfl rfl <| o_iadd W382 (v := 6) 123 (hb hy at_122) (by decide) rfl <| o_iconst W382 (v := 3) 124 (hb hy at_123) rfl rfl <| o_iadd W382 (v := 9) 125 (hb hy at_124) (by decide) rfl ?_
      refine o_newP W382 (aty := .char) (w0 hw) (fun _ E => IW.ext E W382.inv) (by decide) (cap := 9) (by decide) (by decide) 127 (hb hy at_125) rfl (cells' := 4) (slots' := 19) rfl rfl (by decide) (by decide) (vs := [iZ, iZ, iZ, iZ, iZ, iZ, iZ, iZ, iZ]) (dv := iZ) rfl rfl ?_
      intro b383 T383 h383 k383 W383 E383 ge383 gz383 gb383 V383
      refine o_astore W383 (L' := #[vi p0, vi p1, vi p2, vi p3, vi p4, vi 3, vi 1, vi (p0 &&& 255), vi (p1 &&& 255), vi (p2 &&& 255), vi (p3 &&& 255), vr b374, vr b378, vi 3, vr b383, un, un, un, un]) 129 (hb hy at_127) rfl rfl rfl <| o_iload W383 131 (hb hy at_129) rfl rfl <| o_ifN W383 134 (hb hy at_131) (XT.i0_eq_f (by decide)) rfl <| o_aload W383 136 (hb hy at_134) rfl rfl rfl <| o_iconst W383 (v := 0) 137 (hb hy at_136) rfl rfl <| o_bipush W383 (v := 60) 139 (hb hy at_137) (by decide) rfl ?_
      refine o_stC W383 V383 (i := 0) (x' := (60 : Int32)) (by decide) (by decide) (by decide) (Nat.lt_of_sub_eq_succ rfl) (by decide) (vs' := [(.int 60), iZ, iZ, iZ, iZ, iZ, iZ, iZ, iZ]) rfl gz383 (Or.inr gb383) (fun _ R => IW.wr R (Safe.arv W383.al V383 (by decide)) W383.inv) 140 (hb hy at_139) rfl ?_
      intro T384 h384 lo384 W384 R384 V384
      refine o_aload W384 142 (hb hy at_140) rfl rfl rfl <| o_iconst W384 (v := 1) 143 (hb hy at_142) rfl rfl <| o_iload W384 145 (hb hy at_143) rfl rfl ?_
      refine o_stC W384 V384 (i := 1) (x' := (p3 &&& 255)) (by decide) (by decide) (by decide) (Nat.lt_of_sub_eq_succ rfl) (own_i2c (own_b255 _)) (vs' := [(.int 60), (.int (p3 &&& 255)), iZ, iZ, iZ, iZ, iZ, iZ, iZ]) rfl gz383 (Or.inr gb383) (fun _ R => IW.wr R (Safe.arv W384.al V384 (by decide)) W384.inv) 146 (hb hy at_145) rfl ?_
      intro T385 h385 lo385 W385 R385 V385
      refine o_aload W385 148 (hb hy at_146) rfl rfl rfl <| o_iconst W385 (v := 2) 149 (hb hy at_148) rfl rfl <| o_bipush W385 (v := 62) 151 (hb hy at_149) (by decide) rfl ?_
      refine o_stC W385 V385 (i := 2) (x' := (62 : Int32)) (by decide) (by decide) (by decide) (Nat.lt_of_sub_eq_succ rfl) (by decide) (vs' := [(.int 60), (.int (p3 &&& 255)), (.int 62), iZ, iZ, iZ, iZ, iZ, iZ]) rfl gz383 (Or.inr gb383) (fun _ R => IW.wr R (Safe.arv W385.al V385 (by decide)) W385.inv) 152 (hb hy at_151) rfl ?_
      intro T386 h386 lo386 W386 R386 V386
      refine o_aload W386 154 (hb hy at_152) rfl rfl rfl <| o_iload W386 156 (hb hy at_154) rfl rfl <| o_bipush W386 (v := 60) 158 (hb hy at_156) (by decide) rfl ?_
      refine o_stC W386 V386 (i := 3) (x' := (60 : Int32)) (by decide) (by decide) (by decide) (Nat.lt_of_sub_eq_succ rfl) (by decide) (vs' := [(.int 60), (.int (p3 &&& 255)), (.int 62), (.int 60), iZ, iZ, iZ, iZ, iZ]) rfl gz383 (Or.inr gb383) (fun _ R => IW.wr R (Safe.arv W386.al V386 (by decide)) W386.inv) 159 (hb hy at_158) rfl ?_
      intro T387 h387 lo387 W387 R387 V387
      refine o_aload W387 161 (hb hy at_159) rfl rfl rfl <| o_iload W387 163 (hb hy at_161) rfl rfl <| o_iconst W387 (v := 1) 164 (hb hy at_163) rfl rfl <| o_iadd W387 (v := 4) 165 (hb hy at_164) (by decide) rfl <| o_bipush W387 (v := 47) 167 (hb hy at_165) (by decide) rfl ?_
      refine o_stC W387 V387 (i := 4) (x' := (47 : Int32)) (by decide) (by decide) (by decide) (Nat.lt_of_sub_eq_succ rfl) (by decide) (vs' := [(.int 60), (.int (p3 &&& 255)), (.int 62), (.int 60), (.int 47), iZ, iZ, iZ, iZ]) rfl gz383 (Or.inr gb383) (fun _ R => IW.wr R (Safe.arv W387.al V387 (by decide)) W387.inv) 168 (hb hy at_167) rfl ?_
      intro T388 h388 lo388 W388 R388 V388
      refine o_iload W388 170 (hb hy at_168) rfl rfl <| o_ifN W388 173 (hb hy at_170) (XT.i0_le_f (by decide)) rfl <| o_aload W388 175 (hb hy at_173) rfl rfl rfl <| o_iload W388 177 (hb hy at_175) rfl rfl <| o_iconst W388 (v := 2) 178 (hb hy at_177) rfl rfl <| o_iadd W388 (v := 5) 179 (hb hy at_178) (by decide) rfl ?_
      refine o_iload W388 181 (hb hy at_179) rfl rfl ?_
      refine o_stC W388 V388 (i := 5) (x' := (p0 &&& 255)) (by decide) (by decide) (by decide) (Nat.lt_of_sub_eq_succ rfl) (own_i2c (own_b255 _)) (vs' := [(.int 60), (.int (p3 &&& 255)), (.int 62), (.int 60), (.int 47), (.int (p0 &&& 255)), iZ, iZ, iZ]) rfl gz383 (Or.inr gb383) (fun _ R => IW.wr R (Safe.arv W388.al V388 (by decide)) W388.inv) 182 (hb hy at_181) rfl ?_
      intro T389 h389 lo389 W389 R389 V389
      refine o_iload W389 184 (hb hy at_182) rfl rfl <| o_iconst W389 (v := 1) 185 (hb hy at_184) rfl rfl <| o_icmpN W389 188 (hb hy at_185) (XT.ii_le_f (by decide)) rfl <| o_aload W389 190 (hb hy at_188) rfl rfl rfl <| o_iload W389 192 (hb hy at_190) rfl rfl <| o_iconst W389 (v := 3) 193 (hb hy at_192) rfl rfl ?_
      refine o_iadd W389 (v := 6) 194 (hb hy at_193) (by decide) rfl <| o_iload W389 196 (hb hy at_194) rfl rfl ?_
      refine o_stC W389 V389 (i := 6) (x' := (p1 &&& 255)) (by decide) (by decide) (by decide) (Nat.lt_of_sub_eq_succ rfl) (own_i2c (own_b255 _)) (vs' := [(.int 60), (.int (p3 &&& 255)), (.int 62), (.int 60), (.int 47), (.int (p0 &&& 255)), (.int (p1 &&& 255)), iZ, iZ]) rfl gz383 (Or.inr gb383) (fun _ R => IW.wr R (Safe.arv W389.al V389 (by decide)) W389.inv) 197 (hb hy at_196) rfl ?_
      intro T390 h390 lo390 W390 R390 V390
      refine o_iload W390 199 (hb hy at_197) rfl rfl <| o_iconst W390 (v := 2) 200 (hb hy at_199) rfl rfl <| o_icmpN W390 203 (hb hy at_200) (XT.ii_le_f (by decide)) rfl <| o_aload W390 205 (hb hy at_203) rfl rfl rfl <| o_iload W390 207 (hb hy at_205) rfl rfl <| o_iconst W390 (v := 4) 208 (hb hy at_207) rfl rfl ?_
      refine o_iadd W390 (v := 7) 209 (hb hy at_208) (by decide) rfl <| o_iload W390 211 (hb hy at_209) rfl rfl ?_
      refine o_stC W390 V390 (i := 7) (x' := (p2 &&& 255)) (by decide) (by decide) (by decide) (Nat.lt_of_sub_eq_succ rfl) (own_i2c (own_b255 _)) (vs' := [(.int 60), (.int (p3 &&& 255)), (.int 62), (.int 60), (.int 47), (.int (p0 &&& 255)), (.int (p1 &&& 255)), (.int (p2 &&& 255)), iZ]) rfl gz383 (Or.inr gb383) (fun _ R => IW.wr R (Safe.arv W390.al V390 (by decide)) W390.inv) 212 (hb hy at_211) rfl ?_
      intro T391 h391 lo391 W391 R391 V391
      refine o_aload W391 214 (hb hy at_212) rfl rfl rfl <| o_iload W391 216 (hb hy at_214) rfl rfl <| o_iconst W391 (v := 2) 217 (hb hy at_216) rfl rfl <| o_iadd W391 (v := 5) 218 (hb hy at_217) (by decide) rfl <| o_iload W391 220 (hb hy at_218) rfl rfl <| o_iadd W391 (v := 8) 221 (hb hy at_220) (by decide) rfl ?_
      refine o_bipush W391 (v := 62) 223 (hb hy at_221) (by decide) rfl ?_
      refine o_stC W391 V391 (i := 8) (x' := (62 : Int32)) (by decide) (by decide) (by decide) (Nat.lt_of_sub_eq_succ rfl) (by decide) (vs' := [(.int 60), (.int (p3 &&& 255)), (.int 62), (.int 60), (.int 47), (.int (p0 &&& 255)), (.int (p1 &&& 255)), (.int (p2 &&& 255)), (.int 62)]) rfl gz383 (Or.inr gb383) (fun _ R => IW.wr R (Safe.arv W391.al V391 (by decide)) W391.inv) 224 (hb hy at_223) rfl ?_
      intro T392 h392 lo392 W392 R392 V392
      refine o_new W392 (w1 hw) (w2 hw) (w3 hw) (fun _ E => IW.ext E W392.inv) 227 (hb hy at_224) rfl (cells' := 5) (slots' := 23) rfl rfl (by decide) (by decide) ?_
      intro b393 T393 h393 W393 E393 ge393 gz393 gb393 A393 D393
      have Fb393_value : Fld Z h393 b393 s0 "value" "[B" .null := D393 (Or.inr (w16 hw)) (ty := (.array .byte)) (by decide)
      have Fb393_coder : Fld Z h393 b393 s0 "coder" "B" iZ := D393 (Or.inr (w17 hw)) (ty := .byte) (by decide)
      refine o_dup W393 228 (hb hy at_227) rfl rfl <| o_aload W393 230 (hb hy at_228) rfl rfl rfl ?_
      have c394 := (V392.ext E393)
      have ok395 : own_ok [(60 : Int32), (p3 &&& 255), (62 : Int32), (60 : Int32), (47 : Int32), (p0 &&& 255), (p1 &&& 255), (p2 &&& 255), (62 : Int32)] := ⟨by simp only [List.mem_cons, List.not_mem_nil, or_false, forall_eq_or_imp, forall_eq, false_imp_iff, implies_true]; exact ⟨(by unfold own_b; decide), (own_b255 _), (by unfold own_b; decide), (by unfold own_b; decide), (by unfold own_b; decide), (own_b255 _), (own_b255 _), (own_b255 _), (by unfold own_b; decide)⟩, Nat.le_of_ble_eq_true rfl⟩
      have sf396 := own_safeS (EL := consts_1) W393.al A393 Fb393_value
      refine o_special W393 (y := mn1) rfl (w4 hw) (w5 hw) (w6 hw) (by decide) (a := b393) (argsL := [(.ref b383)]) (StrChars.Road.backV (W := 1) W393.2.2.2.1 (own_hV hw) (kI := 4) (w2 hw) (cs := [(60 : Int32), (p3 &&& 255), (62 : Int32), (60 : Int32), (47 : Int32), (p0 &&& 255), (p1 &&& 255), (p2 &&& 255), (62 : Int32)]) (bs := [((60 : Int32)).toInt8.toInt32, ((p3 &&& 255)).toInt8.toInt32, ((62 : Int32)).toInt8.toInt32, ((60 : Int32)).toInt8.toInt32, ((47 : Int32)).toInt8.toInt32, ((p0 &&& 255)).toInt8.toInt32, ((p1 &&& 255)).toInt8.toInt32, ((p2 &&& 255)).toInt8.toInt32, ((62 : Int32)).toInt8.toInt32]) (n := 9) (n0 := Z.heap.size) gz393 W393.zs A393 Fb393_value Fb393_coder c394 (SgCS.ext W393.ox) NgCS rfl rfl (by decide) (by decide) ok395.1 rfl (by decide) (by decide)) (by rw [hml]; rfl) (lenOf pd1 rfl) (S := [(.ref b393)]) rfl (by exact Nat.le_of_eq rfl) 233 (hb hy at_230) rfl (cells' := 6) (slots' := 32) rfl rfl (by decide) (by decide) (wy := [b393]) (fun _ _ _ q => ⟨q.2.1, q.2.2.1⟩) (allS ⟨gz393, (Or.inr gb393)⟩ all0) (fun _ K => IW.keep K (sfS sf396 sf0) W393.inv) ?_
      intro v397 T397 h397 lo397 W397 K397 q397
      obtain ⟨rfl, -, -, X397, Fc397, t397, kb397, gz397, ge397, -, Fv397, A397⟩ := q397
      have B397 : Arv Z h397 t397 kb397 .byte 9 [(.int (b8 60)), (.int (b8 (p3 &&& 255))), (.int (b8 62)), (.int (b8 60)), (.int (b8 47)), (.int (b8 (p0 &&& 255))), (.int (b8 (p1 &&& 255))), (.int (b8 (p2 &&& 255))), (.int (b8 62))] iZ := A397
      show Gl _ _ _ _ _ _ _ _ [(.ref b393)]
      refine o_astore W397 (L' := #[vi p0, vi p1, vi p2, vi p3, vi p4, vi 3, vi 1, vi (p0 &&& 255), vi (p1 &&& 255), vi (p2 &&& 255), vi (p3 &&& 255), vr b374, vr b378, vi 3, vr b383, vr b393, un, un, un]) 235 (hb hy at_233) rfl rfl rfl <| o_iconst W397 (v := 0) 236 (hb hy at_235) rfl rfl ?_
      refine o_newR W397 (w1 hw) (w33 hw) (fun _ E => IW.ext E W397.inv) (by decide) (cap := 0) (by decide) (by decide) 239 (hb hy at_236) rfl (cells' := 7) (slots' := 32) rfl rfl (by decide) (by decide) (vs := []) rfl ?_
      intro b398 T398 h398 k398 W398 E398 ge398 gz398 gb398 V398 O398
      refine o_astore W398 (L' := #[vi p0, vi p1, vi p2, vi p3, vi p4, vi 3, vi 1, vi (p0 &&& 255), vi (p1 &&& 255), vi (p2 &&& 255), vi (p3 &&& 255), vr b374, vr b378, vi 3, vr b383, vr b393, vr b398, un, un]) 241 (hb hy at_239) rfl rfl rfl ?_
      refine o_new W398 (w34 hw) (w35 hw) (w36 hw) (fun _ E => IW.ext E W398.inv) 244 (hb hy at_241) rfl (cells' := 8) (slots' := 33) rfl rfl (by decide) (by decide) ?_
      intro b399 T399 h399 W399 E399 ge399 gz399 gb399 A399 D399
      have Fb399_out : Fld Z h399 b399 s4 "out" s5 .null := D399 (Or.inr (w60 hw)) (ty := (.object s2)) (by decide)
      refine o_dup W399 245 (hb hy at_244) rfl rfl ?_
      refine o_specialC W399 rfl (w37 hw) (w38 hw) (w39 hw) (by decide) (w36 hw) (rm5 l hw gCS b399 h399 W399.old SgCS NgCS A399 Fb399_out gz399) 1 10 53 (by decide) (by rw [hml]; rfl) (lenOf pd3 rfl) [(.ref b399)] rfl rfl 248 (hb hy at_245) rfl rfl rfl (allS ⟨gz399, (Or.inr gb399)⟩ all0) (fun _ K => IW.keep K (sfS (Safe.exa W399.al A399 (by decide) (by decide)) sf0) W399.inv) ?_
      intro v400 T400 h400 lo400 W400 K400 q400
      obtain ⟨r1_400, r2_400, r3_400, P400_0, P400_1, P400_2, P400_3, P400_4, P400_5, P400_6, P400_7, rfl⟩ := q400.2.2
      show Gl _ _ _ _ _ _ _ _ [(.ref b399)]
      refine o_astore W400 (L' := #[vi p0, vi p1, vi p2, vi p3, vi p4, vi 3, vi 1, vi (p0 &&& 255), vi (p1 &&& 255), vi (p2 &&& 255), vi (p3 &&& 255), vr b374, vr b378, vi 3, vr b383, vr b393, vr b398, vr b399, un]) 250 (hb hy at_248) rfl rfl rfl <| o_iload W400 252 (hb hy at_250) rfl rfl <| o_ifN W400 255 (hb hy at_252) (XT.i0_eq_f (by decide)) rfl <| o_aload W400 257 (hb hy at_255) rfl rfl rfl <| o_iload W400 259 (hb hy at_257) rfl rfl ?_
      refine o_staticC W400 (w187 hw) (w188 hw) (w3 hw) (w189 hw) (by decide) (rm107 l hw gCS (p3 &&& 255) h400 W400.old SgCS NgCS (own_b255 _)) 1 12 58 (by decide) (by rw [hml]; rfl) (lenOf pd27 rfl) [(.ref b399)] rfl rfl 262 (hb hy at_259) rfl rfl rfl all0 (fun _ K => IW.keep K sf0 W400.inv) ?_
      intro v401 T401 h401 lo401 W401 K401 q401
      obtain ⟨r1_401, r2_401, r3_401, P401_0, P401_1, P401_2, P401_3, P401_4, P401_5, rfl⟩ := q401.2.2
      show Gl _ _ _ _ _ _ _ _ [(.ref r1_401), (.ref b399)]
      have B402 : Arv Z h401 r2_401 r3_401 .byte 1 [(.int (b8 (p3 &&& 255)))] iZ := P401_5
      refine o_aload W401 264 (hb hy at_262) rfl rfl rfl ?_
      have c403 := (((V398.ext E399).keep K400 (ninS (own_ne V398.lt ge399) nin0)).keep K401 nin0)
      have c404 := (P400_2.keep K401 nin0)
      have c405 := (P400_6.keep K401 nin0)
      have c406 := (P400_4.keep K401 nin0)
      have c407 := (P400_7.keep K401 nin0)
      have c408 := (P400_5.keep K401 nin0)
      have c409 := (P400_3.keep K401)
      have c410 := (V398.ext E399)
      have c411 := ((A399.keep K400).keep K401)
      refine o_virtualC W401 (w197 hw) (w198 hw) (o_nf W401 rfl (w200 hw)) (w200 hw) (w199 hw) (by decide) c411 (w201 hw) (w36 hw) (rm120 l hw gCS b399 r1_401 b398 k398 r1_400 r2_400 r3_400 r2_401 r3_401 (p3 &&& 255) h401 W401.old c403 c404 c409 c405 c406 c407 c408 SgCS NgCS (Nat.le_trans W399.zs P400_0) (Nat.le_trans W399.zs P400_1) P401_2 P401_3 B402 (own_ne P400_7.lt P401_1) P401_4 (own_ne c410.lt P400_1) c411) 0 12 58 (by decide) (by rw [hml]; rfl) (lenOf pd28 rfl) [] rfl rfl 267 (hb hy at_264) rfl rfl rfl (allS ⟨(Nat.le_trans W399.zs P400_0), (Or.inr (Nat.le_trans W399.keep.1 P400_0))⟩ (allS ⟨(Nat.le_trans W399.zs P400_1), (Or.inr (Nat.le_trans W399.keep.1 P400_1))⟩ all0)) (fun _ K => IW.keep K (sfS (Safe.exa W401.al c409 (by decide) (by decide)) (sfS (own_safeB W401.2.2.2.1 (n := 16) (by decide) (own_EL16 hw) c407) sf0)) W401.inv) ?_
      intro v412 T412 h412 lo412 W412 K412 q412
      obtain ⟨P412_0, P412_1, P412_2, P412_3, rfl⟩ := q412.2.2
      show Gl _ _ _ _ _ _ _ _ [(.ref b399)]
      refine o_pop W412 268 (hb hy at_267) rfl rfl <| o_aload W412 270 (hb hy at_268) rfl rfl rfl <| o_aload W412 272 (hb hy at_270) rfl rfl rfl ?_
      have c413 := (c404.keep K412 (ninS (own_ne A399.lt P400_0) (ninS (own_ne A399.lt P400_1) nin0)))
      have c414 := ((((((((((X382.ext E383).wr R384).wr R385).wr R386).wr R387).wr R388).wr R389).wr R390).wr R391).wr R392)
      have c415 := (((c414.ext E393).keep K397).ext E398)
      have c416 := (c415.ext E399)
      have c417 := (((((((((((((((((Fv382.ext E383).other R384 (Or.inl (own_ne X382.lt ge383))).other R385 (Or.inl (own_ne X382.lt ge383))).other R386 (Or.inl (own_ne X382.lt ge383))).other R387 (Or.inl (own_ne X382.lt ge383))).other R388 (Or.inl (own_ne X382.lt ge383))).other R389 (Or.inl (own_ne X382.lt ge383))).other R390 (Or.inl (own_ne X382.lt ge383))).other R391 (Or.inl (own_ne X382.lt ge383))).other R392 (Or.inl (own_ne X382.lt ge383))).ext E393).keep K397 (ninS (own_ne c414.lt ge393) nin0)).ext E398).ext E399).keep K400 (ninS (own_ne c415.lt ge399) nin0)).keep K401 nin0).keep K412 (ninS (own_ne c416.lt P400_0) (ninS (own_ne c416.lt P400_1) nin0)))
      have c418 := ((((((((((B382.ext E383).other R384 (own_ne B382.lt ge383)).other R385 (own_ne B382.lt ge383)).other R386 (own_ne B382.lt ge383)).other R387 (own_ne B382.lt ge383)).other R388 (own_ne B382.lt ge383)).other R389 (own_ne B382.lt ge383)).other R390 (own_ne B382.lt ge383)).other R391 (own_ne B382.lt ge383)).other R392 (own_ne B382.lt ge383))
      have c419 := (((c418.ext E393).keep K397 (ninS (own_ne c418.lt ge393) nin0)).ext E398)
      have c420 := (c419.ext E399)
      have c421 := (((((((((((((((((B382.ext E383).other R384 (own_ne B382.lt ge383)).other R385 (own_ne B382.lt ge383)).other R386 (own_ne B382.lt ge383)).other R387 (own_ne B382.lt ge383)).other R388 (own_ne B382.lt ge383)).other R389 (own_ne B382.lt ge383)).other R390 (own_ne B382.lt ge383)).other R391 (own_ne B382.lt ge383)).other R392 (own_ne B382.lt ge383)).ext E393).keep K397 (ninS (own_ne c418.lt ge393) nin0)).ext E398).ext E399).keep K400 (ninS (own_ne c419.lt ge399) nin0)).keep K401 nin0).keep K412 (ninS (own_ne c420.lt P400_0) (ninS (own_ne c420.lt P400_1) nin0)))
      have c422 := (((((((((((((((((Fc382.ext E383).other R384 (Or.inl (own_ne X382.lt ge383))).other R385 (Or.inl (own_ne X382.lt ge383))).other R386 (Or.inl (own_ne X382.lt ge383))).other R387 (Or.inl (own_ne X382.lt ge383))).other R388 (Or.inl (own_ne X382.lt ge383))).other R389 (Or.inl (own_ne X382.lt ge383))).other R390 (Or.inl (own_ne X382.lt ge383))).other R391 (Or.inl (own_ne X382.lt ge383))).other R392 (Or.inl (own_ne X382.lt ge383))).ext E393).keep K397 (ninS (own_ne c414.lt ge393) nin0)).ext E398).ext E399).keep K400 (ninS (own_ne c415.lt ge399) nin0)).keep K401 nin0).keep K412 (ninS (own_ne c416.lt P400_0) (ninS (own_ne c416.lt P400_1) nin0)))
      have c423 := (c409.keep K412)
      have c424 := (((c416.keep K400).keep K401).keep K412)
      have c425 := (c411.keep K412)
      refine o_virtualW W412 (y := mn17) (z := mn17) (w61 hw) (w62 hw) (o_nf W412 rfl (w64 hw)) (w64 hw) (w63 hw) (by decide) c425 (argsL := [(.ref b378)]) (CtrW.back (Wd := 0) W412 (rm192 l hw gCS b399 b378 r1_400 r2_400 r3_400 (b8 (p3 &&& 255)) t382 kb382 (p0 &&& 255) (p1 &&& 255) (p2 &&& 255) h412 W412.old c413 c423 SgCS NgCS P412_0 P412_1 P412_2 P412_3 (Nat.le_trans W399.zs P400_1) (Nat.le_trans W399.zs P400_0) c424 c417 c421 (own_ne' c420.lt P400_1) c422) (w65 hw) (w36 hw) (by decide) (by decide) (own_EL hw)) (by rw [hml]; rfl) (lenOf pd15 rfl) (S := []) rfl (by exact Nat.le_of_eq rfl) 275 (hb hy at_272) rfl (cells' := 14) (slots' := 70) rfl rfl (by decide) (by decide) (wy := [r2_400, r1_400]) qf (allS ⟨(Nat.le_trans W399.zs P400_1), (Or.inr (Nat.le_trans W399.keep.1 P400_1))⟩ (allS ⟨(Nat.le_trans W399.zs P400_0), (Or.inr (Nat.le_trans W399.keep.1 P400_0))⟩ all0))  ?_
      intro v426 T426 h426 V426 lo426 W426 K426 C426 q426
      obtain ⟨P426_0, P426_1, P426_2, P426_3, rfl⟩ := q426.2.2
      show Gl _ _ _ _ _ _ _ _ [(.ref b399)]
      refine o_astore W426 (L' := #[vi p0, vi p1, vi p2, vi p3, vi p4, vi 3, vi 1, vi (p0 &&& 255), vi (p1 &&& 255), vi (p2 &&& 255), vi (p3 &&& 255), vr b374, vr b378, vi 3, vr b383, vr b393, vr b398, vr b399, vr b399]) 277 (hb hy at_275) rfl rfl rfl <| o_aload W426 279 (hb hy at_277) rfl rfl rfl <| o_aload W426 281 (hb hy at_279) rfl rfl rfl ?_
      refine o_acmpY W426 286 (hb hy at_281) rfl rfl (XT.aa_eq_t rfl) (by decide) rfl ?_
      refine o_aload W426 288 (hb hy at_286) rfl rfl rfl <| o_aload W426 290 (hb hy at_288) rfl rfl rfl ?_
      have c427 := (c413.keep K426 (ninS (own_ne A399.lt P400_1) (ninS (own_ne A399.lt P400_0) nin0)))
      have c428 := (c423.keep K426)
      have c429 := (c425.keep K426)
      refine o_virtualC W426 (w132 hw) (w133 hw) (o_nf W426 rfl (w135 hw)) (w135 hw) (w134 hw) (by decide) c429 (w136 hw) (w36 hw) (rm202 l hw gCS b399 r1_400 r2_400 r3_400 (b8 (p3 &&& 255)) (b8 60) (b8 47) (b8 (p0 &&& 255)) (b8 (p1 &&& 255)) (b8 (p2 &&& 255)) h426 W426.old c427 c428 P426_1 P426_0 SgCS NgCS P426_3 P426_2) 1 16 83 (by decide) (by rw [hml]; rfl) (lenOf pd22 rfl) [(.ref b393)] rfl rfl 293 (hb hy at_290) rfl rfl rfl all0 (fun _ K => IW.keep K sf0 W426.inv) ?_
      intro v430 T430 h430 lo430 W430 K430 q430
      obtain ⟨r1_430, r2_430, r3_430, P430_0, P430_1, P430_2, P430_3, P430_4, P430_5, rfl⟩ := q430.2.2
      show Gl _ _ _ _ _ _ _ _ [(.ref r1_430), (.ref b393)]
      have c431 := (X397.ext E398)
      have c432 := (c431.ext E399)
      have c433 := (((((((Fc397.ext E398).ext E399).keep K400 (ninS (own_ne c431.lt ge399) nin0)).keep K401 nin0).keep K412 (ninS (own_ne c432.lt P400_0) (ninS (own_ne c432.lt P400_1) nin0))).keep K426 (ninS (own_ne c432.lt P400_1) (ninS (own_ne c432.lt P400_0) nin0))).keep K430 nin0)
      have c434 := (((((((Fv397.ext E398).ext E399).keep K400 (ninS (own_ne c431.lt ge399) nin0)).keep K401 nin0).keep K412 (ninS (own_ne c432.lt P400_0) (ninS (own_ne c432.lt P400_1) nin0))).keep K426 (ninS (own_ne c432.lt P400_1) (ninS (own_ne c432.lt P400_0) nin0))).keep K430 nin0)
      have c435 := (B397.ext E398)
      have c436 := (c435.ext E399)
      have c437 := (((((((B397.ext E398).ext E399).keep K400 (ninS (own_ne c435.lt ge399) nin0)).keep K401 nin0).keep K412 (ninS (own_ne c436.lt P400_0) (ninS (own_ne c436.lt P400_1) nin0))).keep K426 (ninS (own_ne c436.lt P400_1) (ninS (own_ne c436.lt P400_0) nin0))).keep K430 nin0)
      have c438 := (((((c432.keep K400).keep K401).keep K412).keep K426).keep K430)
      have c439 := ((((c432.keep K400).keep K401).keep K412).keep K426)
      refine o_virtualC W430 (w178 hw) (w179 hw) (o_nf W430 rfl (w181 hw)) (w181 hw) (w180 hw) (by decide) c438 (w182 hw) (w3 hw) (rm204 l hw gCS b393 r1_430 t397 r2_430 kb397 (p3 &&& 255) (p0 &&& 255) (p1 &&& 255) (p2 &&& 255) r3_430 (b8 (p3 &&& 255)) (b8 60) (b8 47) (b8 (p0 &&& 255)) (b8 (p1 &&& 255)) (b8 (p2 &&& 255)) h430 W430.old c438 P430_2 (own_ne c439.lt P430_0) SgCS NgCS c433 P430_4 c434 P430_3 c437 P430_5 rfl rfl rfl rfl rfl rfl) 0 16 83 (by decide) (by rw [hml]; rfl) (lenOf pd24 rfl) [] rfl rfl 296 (hb hy at_293) rfl rfl rfl all0 (fun _ K => IW.keep K sf0 W430.inv) ?_
      intro v440 T440 h440 lo440 W440 K440 q440
      obtain rfl := q440.2.2
      show Gl _ _ _ _ _ _ _ _ [(.int 1)]
      exact o_retNW W440 (own_EL hw) hlk (t := .boolean) hret (by simp) (z' := (1 : Int32)) (by decide) (hb hy at_296) (by decide) (by decide) rfl
theorem comes_1 {Post : Tables → Env → Array Value → State → Outcome → State → Prop} (hpost : ∀ tb e args s v u, (limb_1_1.after args s (.returned v) u = true ∧ limb_1_2.after args s (.returned v) u = true ∧ True) → Jvm.ReturnedEndW s (.returned v) u (Jvm.fieldLocs frame_1_writes args s ++ Jvm.arrayLocs frame_1_arrays args s ++ Jvm.staticLocs frame_1_statics s) 40 2304 → Post tb e args s (.returned v) u) :
    ArmFor flags0 classFile x code maxLocals ret World_1 tables_1 room_1 Calls_1 rest_1 Pre_1 Post := by
  intro l hfl _ _ p e ha hc hk s m args below hf hA hF happ hP
  obtain ⟨hcalls, hrest, hpre⟩ := hP
  obtain ⟨-, -, -, hnamed, -, -, -, hat⟩ := (Spec.applies_iff hf).mp happ
  obtain ⟨hg, hn⟩ := and_e (Cond.before_iff.mp (show (Jvm.Cond.and given_1 narrow_1).before args s = true from hpre))
  obtain ⟨g1, g2⟩ := and_e hg
  obtain ⟨g3, g4⟩ := and_e g2
  obtain ⟨g5, g6⟩ := and_e g4
  obtain ⟨g7, g8⟩ := and_e g6
  obtain ⟨g9, g10⟩ := and_e g8
  obtain ⟨w0, w1, w2, w3, w4, rfl⟩ : ∃ w0 w1 w2 w3 w4 : Value, args = #[w0, w1, w2, w3, w4] := by
    have hs : args.size = 5 := by simpa [Cond.value, given_1] using g1
    obtain ⟨L⟩ := args
    match L, hs with
    | [w0, w1, w2, w3, w4], _ => exact ⟨w0, w1, w2, w3, w4, rfl⟩
  obtain ⟨i0, ei0⟩ := is_v g3
  obtain rfl : w0 = (.int i0) := Option.some.inj ei0
  obtain ⟨i1, ei1⟩ := is_v g5
  obtain rfl : w1 = (.int i1) := Option.some.inj ei1
  obtain ⟨i2, ei2⟩ := is_v g7
  obtain rfl : w2 = (.int i2) := Option.some.inj ei2
  obtain ⟨i3, ei3⟩ := is_v g9
  obtain rfl : w3 = (.int i3) := Option.some.inj ei3
  obtain ⟨i4, ei4⟩ := is_v g10
  obtain rfl : w4 = (.int i4) := Option.some.inj ei4
  have hw := fun d (hd : d ∈ tables_1) => atoms_spec (ws := Jvm.Cond.code x code maxLocals ret :: tables_1) hat d (List.mem_cons_of_mem _ hd)
  have hfit : Fit s := fun {y c} hc i hi => by
    obtain ⟨ha, rfl⟩ := Array.getElem?_eq_some_iff.mp hc
    have q := List.all_eq_true.mp ((Array.all_eq_true_iff_forall_mem.mp hF) _ (Array.getElem_mem ha)) i (List.mem_range.mpr hi)
    simpa [Array.getElem?_eq_getElem hi] using q
  obtain ⟨hsets, hown0⟩ := atoms_of _ (rest_1_c_eq ▸ (show rest_1_c.before _ s = true from hrest))
  obtain ⟨gCS, eCS⟩ := is_v (Cond.before_iff.mp (hsets _ (List.mem_of_getElem? (i := 1) rfl)))
  have SgCS := Sta.start eCS (Or.inl (hsets _ (List.mem_of_getElem? (i := 0) rfl)))
  have NgCS : ¬ (gCS = (0 : Int32)) := gotF (own_eqS eCS) (not_v (Cond.before_iff.mp (hsets _ (List.mem_of_getElem? (i := 2) rfl))))
  have hCH : CHv s consts_1 s.vm s.heap := CHv.start (own_EL hw) (show ∀ p ∈ consts_1, Jvm.Lit.constHeld s p.1 p.2 from hcalls.1) (show Jvm.Lit.compactW.before _ s = true from (hsets _ (List.mem_of_getElem? (i := 2) rfl))) (w15 hw) (w2 hw)
  obtain ⟨n, o, h1, h2, h3, _, L, rfl, ⟨N, -, rfl⟩, -, hq⟩ := rm_law l hw gCS i0 i1 i2 i3 i4 s.heap (Old.start s) SgCS NgCS p e ha hc hk s m _ below hf ((Spec.applies_iff_loose hf).mp happ).1 ⟨rfl, State.Warmed39.refl s, rfl, hCH⟩ trivial
  refine ⟨n, _, h1, h2, h3, hpost _ _ _ _ _ _ ⟨Cond.after_iff.mpr rfl, Cond.after_iff.mpr (eq_i res_at (Term.int_eval (1)) rfl), trivial⟩ ⟨hq.1, hq.2.1, hq.2.2.1, (hq.2.2.2.sift fun y hy => Or.inr (N y hy)).mono (by decide) (by decide)⟩⟩
theorem main_1_1 : Claimed_1_1 := comes_1 fun _ _ _ _ _ _ h hF => ⟨h.1, hF⟩
theorem main_1_2 : Claimed_1_2 := comes_1 fun _ _ _ _ _ _ h hF => ⟨h.2.1, hF⟩
end Jvm.Pilot.@@N@@
namespace Jvm.Pilot.@@N@@
open Jvm Jvm.ClassFile Sem Op Lib Jvm.Free Jvm.Stand Jvm.Pilot.@@N@@.Jvm.D
/-! MADE BY PROGRAM (witnessworld.py) out of the Statement's table words and the real class files: 27 classes; the members and pool entries that the words name. The judged class is class 1, her method 1. -/
namespace start1
open Jvm.ClassFile
def u (s : String) : CpInfo := .utf8 (stringToUtf16 s)
/-- a pool by its gaps: so many unusable entries, then the entry; so many at the end -/
def gap : Nat → List CpInfo → List CpInfo
  | 0, r => r
  | n + 1, r => .unusable :: gap n r
def poolList (es : List (Nat × CpInfo)) (last : Nat) : List CpInfo := es.foldr (fun e r => gap e.1 (e.2 :: r)) (gap last [])
def pool (es : List (Nat × CpInfo)) (last : Nat) : Array CpInfo := ⟨poolList es last⟩
def fileOf (pool : Array CpInfo) (this : Nat) (attrs : Array Attribute := #[]) (ms : Array MethodInfo := #[]) (fl : Nat := 33) (sup : Nat := 0) (ifs : Array Nat := #[]) (fds : Array FieldInfo := #[]) : ClassFile where
  minorVersion := 0
  majorVersion := 65
  constantPool := pool
  accessFlags := fl
  thisClass := this
  superClass := sup
  interfaces := ifs
  fields := fds
  methods := ms
  attributes := attrs
def plain (name : String) (sup : Option ClassId) : Class where
  name := name
  kind := .ordinary
  loader := none
  accessFlags := 33
  super := sup
  interfaces := #[]
  cf := none
  fields := #[]
  methods := #[]
  instanceTypes := #[]
  staticTypes := #[]
  resolved := #[]
  callSites := []
  init := .initialized
  statics := none
  mirror := none

def pool0 : Array CpInfo := pool [(5, u "<init>"), (0, u "()V"), (1, .class_ 10), (1, u "java/lang/Object")] 113

def k0c0 : Code := { maxStack := 0, maxLocals := 1, code := object_method_1_code, exceptionTable := #[], attributes := #[] }
def k0m0 : Method := { name := "<init>", desc := "()V", sig := { parameters := [], returnType := none }, accessFlags := 1, code := some k0c0 }
/-- java/lang/Object -/
def k0 : Class := { plain "java/lang/Object" none with
  accessFlags := 33
  interfaces := #[]
  cf := some (fileOf pool0 8 #[] #[⟨1, 5, 6, #[]⟩] 33 0 #[] #[])
  fields := #[]
  methods := #[k0m0]
  instanceTypes := #[]
  staticTypes := #[]
  resolved := Array.replicate 124 none
  statics := none }

def pool1 : Array CpInfo := pool [(2, .class_ 4), (0, .nameAndType 5 6), (0, u "java/lang/Object"), (0, u "<init>"), (0, u "()V"), (0, .class_ 8), (0, u "java/lang/String"), (0, .methodref 7 10), (0, .nameAndType 5 11), (0, u "([C)V"), (0, .class_ 13), (0, u "com/example/colophon/colophon/api/Html"), (0, .methodref 12 3), (0, .methodref 7 16), (0, .nameAndType 17 18), (0, u "valueOf"), (0, u "(C)Ljava/lang/String;"), (0, .methodref 12 20), (0, .nameAndType 21 22), (0, u "open"), (0, u "(Ljava/lang/String;[Ljava/lang/String;)Lcom/example/colophon/colophon/api/Html;"), (0, .methodref 12 24), (0, .nameAndType 25 26), (0, u "close"), (0, u "(Ljava/lang/String;)Lcom/example/colophon/colophon/api/Html;"), (0, .methodref 12 28), (0, .nameAndType 29 30), (0, u "toString"), (0, u "()Ljava/lang/String;"), (0, .methodref 7 32), (0, .nameAndType 33 34), (0, u "equals"), (0, u "(Ljava/lang/Object;)Z"), (0, .class_ 36), (0, u "com/example/colophon/colophon/api/HtmlClosePinLaw"), (2, u "law"), (0, u "(IIIII)Z")] 7

def k1m0 : Method := { name := "<init>", desc := "()V", sig := { parameters := [], returnType := none }, accessFlags := 1, code := none }
def k1c1 : Code := { maxStack := 3, maxLocals := 19, code := code, exceptionTable := #[], attributes := #[] }
def k1m1 : Method := { name := "law", desc := "(IIIII)Z", sig := { parameters := [.int, .int, .int, .int, .int], returnType := some .boolean }, accessFlags := 9, code := some k1c1 }
/-- com/example/colophon/colophon/api/HtmlClosePinLaw -/
def k1 : Class := { plain "com/example/colophon/colophon/api/HtmlClosePinLaw" (some 0) with
  accessFlags := 49
  interfaces := #[]
  cf := some (fileOf pool1 35 #[] #[⟨1, 5, 6, #[]⟩, ⟨9, 39, 40, #[]⟩] 49 2 #[] #[])
  fields := #[]
  methods := #[k1m0, k1m1]
  instanceTypes := #[]
  staticTypes := #[]
  resolved := Array.replicate 48 none
  statics := none }

def pool2 : Array CpInfo := pool [(1, .class_ 2), (0, u "java/io/Serializable"), (0, .class_ 4), (0, u "java/lang/Object")] 2

/-- java/io/Serializable -/
def k2 : Class := { plain "java/io/Serializable" (some 0) with
  accessFlags := 1537
  interfaces := #[]
  cf := some (fileOf pool2 1 #[] #[] 1537 3 #[] #[])
  fields := #[]
  methods := #[]
  instanceTypes := #[]
  staticTypes := #[]
  resolved := Array.replicate 7 none
  statics := none }

def pool3 : Array CpInfo := pool [(1, .class_ 2), (0, u "java/lang/Comparable"), (0, .class_ 4), (0, u "java/lang/Object")] 7

/-- java/lang/Comparable -/
def k3 : Class := { plain "java/lang/Comparable" (some 0) with
  accessFlags := 1537
  interfaces := #[]
  cf := some (fileOf pool3 1 #[] #[] 1537 3 #[] #[])
  fields := #[]
  methods := #[]
  instanceTypes := #[]
  staticTypes := #[]
  resolved := Array.replicate 12 none
  statics := none }

def pool4 : Array CpInfo := pool [(2, .class_ 4), (1, u "java/lang/CharSequence"), (42, .class_ 48), (0, u "java/lang/CharSequence$1CodePointIterator"), (10, .class_ 60), (0, u "java/lang/CharSequence$1CharIterator"), (5, .class_ 67), (0, u "java/lang/Object")] 63

/-- java/lang/CharSequence -/
def k4 : Class := { plain "java/lang/CharSequence" (some 0) with
  accessFlags := 1537
  interfaces := #[]
  cf := some (fileOf pool4 2 #[.nestMembers #[47, 59]] #[] 1537 66 #[] #[])
  fields := #[]
  methods := #[]
  instanceTypes := #[]
  staticTypes := #[]
  resolved := Array.replicate 131 none
  statics := none }

def pool5 : Array CpInfo := pool [(1, .class_ 2), (0, u "java/lang/constant/Constable"), (0, .class_ 4), (0, u "java/lang/Object")] 6

/-- java/lang/constant/Constable -/
def k5 : Class := { plain "java/lang/constant/Constable" (some 0) with
  accessFlags := 1537
  interfaces := #[]
  cf := some (fileOf pool5 1 #[] #[] 1537 3 #[] #[])
  fields := #[]
  methods := #[]
  instanceTypes := #[]
  staticTypes := #[]
  resolved := Array.replicate 11 none
  statics := none }

def pool6 : Array CpInfo := pool [(1, .class_ 2), (0, u "java/lang/constant/ConstantDesc"), (0, .class_ 4), (0, u "java/lang/Object")] 32

/-- java/lang/constant/ConstantDesc -/
def k6 : Class := { plain "java/lang/constant/ConstantDesc" (some 0) with
  accessFlags := 1537
  interfaces := #[]
  cf := some (fileOf pool6 1 #[] #[] 1537 3 #[] #[])
  fields := #[]
  methods := #[]
  instanceTypes := #[]
  staticTypes := #[]
  resolved := Array.replicate 37 none
  statics := none }

def pool7 : Array CpInfo := pool [(1, .methodref 2 3), (0, .class_ 4), (0, .nameAndType 5 6), (0, u "java/lang/Object"), (0, u "<init>"), (0, u "()V"), (0, .string 8), (0, u ""), (0, .fieldref 10 11), (0, .class_ 12), (0, .nameAndType 13 14), (0, u "java/lang/String"), (0, u "value"), (0, u "[B"), (0, .fieldref 10 16), (0, .nameAndType 17 18), (0, u "coder"), (0, u "B"), (2, u "hash"), (0, u "I"), (2, u "hashIsZero"), (0, u "Z"), (0, .methodref 10 28), (0, .nameAndType 5 29), (0, u "([CIILjava/lang/Void;)V"), (8, .fieldref 10 39), (0, .nameAndType 40 26), (0, u "COMPACT_STRINGS"), (1, .class_ 44), (1, u "java/lang/StringUTF16"), (0, u "compress"), (1, .methodref 42 48), (0, .nameAndType 49 50), (0, u "coderFromArrayLen"), (0, u "([BI)B"), (2, u "toBytes"), (0, .methodref 55 56), (0, .class_ 57), (0, .nameAndType 58 59), (0, u "java/util/Arrays"), (0, u "copyOfRange"), (0, u "([BII)[B"), (47, .class_ 109), (1, u "java/lang/StringLatin1"), (32, u "()Z"), (34, .methodref 42 178), (0, .nameAndType 45 179), (0, u "([CII)[B"), (13, .class_ 195), (1, u "java/lang/System"), (13, .methodref 10 210), (0, .nameAndType 5 211), (0, u "([BB)V"), (0, .methodref 193 213), (0, .nameAndType 214 215), (0, u "arraycopy"), (0, u "(Ljava/lang/Object;ILjava/lang/Object;II)V"), (118, u "()I"), (0, .methodref 10 336), (0, .nameAndType 17 337), (0, u "()B"), (2, u "()[B"), (28, u "(C)Z"), (119, .methodref 10 490), (0, .nameAndType 5 491), (0, u "(Ljava/lang/AbstractStringBuilder;Ljava/lang/Void;)V"), (1, .nameAndType 494 142), (0, u "isLatin1"), (11, .nameAndType 507 334), (0, u "length"), (24, u "getBytes"), (8, .methodref 107 542), (0, .nameAndType 543 544), (0, u "equals"), (0, u "([B[B)Z"), (4, .methodref 550 506), (0, .class_ 551), (0, u "java/lang/AbstractStringBuilder"), (0, .methodref 550 553), (0, .nameAndType 554 340), (0, u "getValue"), (18, u "(Ljava/lang/Object;)Z"), (1, .class_ 576), (0, u "java/lang/CharSequence"), (22, u "CASE_INSENSITIVE_ORDER"), (0, u "Ljava/util/Comparator;"), (181, u "valueOf"), (0, u "(C)Ljava/lang/String;"), (37, u "([BIB)V"), (188, u "([C)V"), (4, .methodref 107 1016), (0, .nameAndType 1017 369), (0, u "canEncode"), (0, .methodref 107 1019), (0, .nameAndType 53 1020), (0, u "(C)[B"), (26, .methodref 550 493), (53, u "serialPersistentFields"), (0, u "[Ljava/io/ObjectStreamField;"), (0, .class_ 1104), (0, u "java/lang/String$CaseInsensitiveComparator"), (1, .class_ 1107), (0, u "java/io/Serializable"), (0, .class_ 1109), (0, u "java/lang/Comparable"), (0, .class_ 1111), (0, u "java/lang/constant/Constable"), (0, .class_ 1113), (0, u "java/lang/constant/ConstantDesc"), (2, u "serialVersionUID"), (0, u "J"), (3, u "REPL"), (0, u "C"), (2, u "LATIN1"), (1, u "UTF16"), (105, u "(Ljava/lang/StringBuilder;)V")] 217

def k7m0 : Method := { name := "<init>", desc := "()V", sig := { parameters := [], returnType := none }, accessFlags := 1, code := none }
def k7c1 : Code := { maxStack := 5, maxLocals := 2, code := jdk_42_method_3_code, exceptionTable := #[], attributes := #[] }
def k7m1 : Method := { name := "<init>", desc := "([C)V", sig := { parameters := [(.array .char)], returnType := none }, accessFlags := 1, code := some k7c1 }
def k7c2 : Code := { maxStack := 3, maxLocals := 2, code := jdk_42_method_53_code, exceptionTable := #[], attributes := #[] }
def k7m2 : Method := { name := "<init>", desc := "(Ljava/lang/StringBuilder;)V", sig := { parameters := [(.object "java/lang/StringBuilder")], returnType := none }, accessFlags := 1, code := some k7c2 }
def k7c3 : Code := { maxStack := 2, maxLocals := 1, code := jdk_42_method_54_code, exceptionTable := #[], attributes := #[] }
def k7m3 : Method := { name := "length", desc := "()I", sig := { parameters := [], returnType := some .int }, accessFlags := 1, code := some k7c3 }
def k7c4 : Code := { maxStack := 2, maxLocals := 3, code := jdk_42_method_66_code, exceptionTable := #[], attributes := #[] }
def k7m4 : Method := { name := "equals", desc := "(Ljava/lang/Object;)Z", sig := { parameters := [(.object "java/lang/Object")], returnType := some .boolean }, accessFlags := 1, code := some k7c4 }
def k7c5 : Code := { maxStack := 4, maxLocals := 1, code := jdk_42_method_139_code, exceptionTable := #[], attributes := #[] }
def k7m5 : Method := { name := "valueOf", desc := "(C)Ljava/lang/String;", sig := { parameters := [.char], returnType := some (.object "java/lang/String") }, accessFlags := 9, code := some k7c5 }
def k7c6 : Code := { maxStack := 5, maxLocals := 4, code := jdk_42_method_147_code, exceptionTable := #[], attributes := #[] }
def k7m6 : Method := { name := "getBytes", desc := "([BIB)V", sig := { parameters := [(.array .byte), .int, .byte], returnType := none }, accessFlags := 0, code := some k7c6 }
def k7c7 : Code := { maxStack := 4, maxLocals := 6, code := jdk_42_method_149_code, exceptionTable := #[], attributes := #[] }
def k7m7 : Method := { name := "<init>", desc := "([CIILjava/lang/Void;)V", sig := { parameters := [(.array .char), .int, .int, (.object "java/lang/Void")], returnType := none }, accessFlags := 2, code := some k7c7 }
def k7c8 : Code := { maxStack := 5, maxLocals := 5, code := jdk_42_method_150_code, exceptionTable := #[], attributes := #[] }
def k7m8 : Method := { name := "<init>", desc := "(Ljava/lang/AbstractStringBuilder;Ljava/lang/Void;)V", sig := { parameters := [(.object "java/lang/AbstractStringBuilder"), (.object "java/lang/Void")], returnType := none }, accessFlags := 0, code := some k7c8 }
def k7c9 : Code := { maxStack := 2, maxLocals := 3, code := jdk_42_method_151_code, exceptionTable := #[], attributes := #[] }
def k7m9 : Method := { name := "<init>", desc := "([BB)V", sig := { parameters := [(.array .byte), .byte], returnType := none }, accessFlags := 0, code := some k7c9 }
def k7c10 : Code := { maxStack := 1, maxLocals := 1, code := jdk_42_method_152_code, exceptionTable := #[], attributes := #[] }
def k7m10 : Method := { name := "coder", desc := "()B", sig := { parameters := [], returnType := some .byte }, accessFlags := 0, code := some k7c10 }
/-- java/lang/String -/
def k7 : Class := { plain "java/lang/String" (some 0) with
  accessFlags := 49
  interfaces := #[2, 3, 4, 5, 6]
  cf := some (fileOf pool7 10 #[.nestMembers #[1103]] #[⟨1, 5, 6, #[]⟩, ⟨1, 5, 1010, #[]⟩, ⟨1, 5, 1233, #[]⟩, ⟨1, 507, 334, #[]⟩, ⟨1, 543, 573, #[]⟩, ⟨9, 782, 783, #[]⟩, ⟨0, 532, 821, #[]⟩, ⟨2, 5, 29, #[]⟩, ⟨0, 5, 491, #[]⟩, ⟨0, 5, 211, #[]⟩, ⟨0, 17, 337, #[]⟩] 49 2 #[1106, 1108, 575, 1110, 1112] #[⟨18, 13, 14, #[]⟩, ⟨18, 17, 18, #[]⟩, ⟨2, 21, 22, #[]⟩, ⟨2, 25, 26, #[]⟩, ⟨26, 1116, 1117, #[]⟩, ⟨24, 40, 26, #[]⟩, ⟨26, 1101, 1102, #[]⟩, ⟨26, 1121, 1122, #[]⟩, ⟨25, 599, 600, #[]⟩, ⟨24, 1125, 18, #[]⟩, ⟨24, 1127, 18, #[]⟩])
  fields := #[⟨"value", (.array .byte), 18, 0, 0⟩, ⟨"coder", .byte, 18, 1, 0⟩, ⟨"hash", .int, 2, 2, 0⟩, ⟨"hashIsZero", .boolean, 2, 3, 0⟩, ⟨"serialVersionUID", .long, 26, 0, 0⟩, ⟨"COMPACT_STRINGS", .boolean, 24, 1, 0⟩, ⟨"serialPersistentFields", (.array (.object "java/io/ObjectStreamField")), 26, 2, 0⟩, ⟨"REPL", .char, 26, 3, 0⟩, ⟨"CASE_INSENSITIVE_ORDER", (.object "java/util/Comparator"), 25, 4, 0⟩, ⟨"LATIN1", .byte, 24, 5, 0⟩, ⟨"UTF16", .byte, 24, 6, 0⟩]
  methods := #[k7m0, k7m1, k7m2, k7m3, k7m4, k7m5, k7m6, k7m7, k7m8, k7m9, k7m10]
  instanceTypes := #[(.array .byte), .byte, .int, .boolean]
  staticTypes := #[.long, .boolean, (.array (.object "java/io/ObjectStreamField")), .char, (.object "java/util/Comparator"), .byte, .byte]
  resolved := Array.replicate 1451 none
  statics := some 0 }

def pool8 : Array CpInfo := pool [(6, .class_ 8), (1, u "java/lang/Object"), (0, u "<init>"), (0, u "()V"), (1, .class_ 14), (1, u "java/lang/StringUTF16"), (31, u "$assertionsDisabled"), (0, u "Z"), (13, u "HI_BYTE_SHIFT"), (0, u "I"), (2, u "LO_BYTE_SHIFT"), (49, .methodref 12 116), (0, .nameAndType 117 118), (0, u "compress"), (0, u "([CI[BII)I"), (3, u "([CII)[B"), (138, u "coderFromArrayLen"), (0, u "([BI)B"), (106, .class_ 371), (1, u "java/lang/StringUTF16$LinesSpliterator"), (58, u "MAX_LENGTH"), (196, .class_ 628), (0, u "java/lang/StringUTF16$CodePointsSpliterator"), (0, .class_ 630), (0, u "java/lang/StringUTF16$CharsSpliterator")] 4

def k8m0 : Method := { name := "<init>", desc := "()V", sig := { parameters := [], returnType := none }, accessFlags := 0, code := none }
def k8c1 : Code := { maxStack := 2, maxLocals := 2, code := jdk_52_method_15_code, exceptionTable := #[], attributes := #[] }
def k8m1 : Method := { name := "coderFromArrayLen", desc := "([BI)B", sig := { parameters := [(.array .byte), .int], returnType := some .byte }, accessFlags := 8, code := some k8c1 }
def k8c2 : Code := { maxStack := 5, maxLocals := 6, code := jdk_52_method_16_code, exceptionTable := #[], attributes := #[] }
def k8m2 : Method := { name := "compress", desc := "([CII)[B", sig := { parameters := [(.array .char), .int, .int], returnType := some (.array .byte) }, accessFlags := 9, code := some k8c2 }
def k8c3 : Code := { maxStack := 3, maxLocals := 7, code := jdk_52_method_21_code, exceptionTable := #[], attributes := #[] }
def k8m3 : Method := { name := "compress", desc := "([CI[BII)I", sig := { parameters := [(.array .char), .int, (.array .byte), .int, .int], returnType := some .int }, accessFlags := 9, code := some k8c3 }
/-- java/lang/StringUTF16 -/
def k8 : Class := { plain "java/lang/StringUTF16" (some 0) with
  accessFlags := 48
  interfaces := #[]
  cf := some (fileOf pool8 12 #[.nestMembers #[627, 629, 369]] #[⟨0, 9, 10, #[]⟩, ⟨8, 261, 262, #[]⟩, ⟨9, 117, 122, #[]⟩, ⟨9, 117, 118, #[]⟩] 48 6 #[] #[⟨26, 61, 62, #[]⟩, ⟨26, 65, 62, #[]⟩, ⟨24, 430, 62, #[]⟩, ⟨4120, 46, 47, #[]⟩])
  fields := #[⟨"HI_BYTE_SHIFT", .int, 26, 0, 0⟩, ⟨"LO_BYTE_SHIFT", .int, 26, 1, 0⟩, ⟨"MAX_LENGTH", .int, 24, 2, 0⟩, ⟨"$assertionsDisabled", .boolean, 4120, 3, 0⟩]
  methods := #[k8m0, k8m1, k8m2, k8m3]
  instanceTypes := #[]
  staticTypes := #[.int, .int, .int, .boolean]
  resolved := Array.replicate 635 none
  statics := none }

def pool9 : Array CpInfo := pool [(1, .methodref 2 3), (0, .class_ 4), (0, .nameAndType 5 6), (0, u "java/lang/Object"), (0, u "<init>"), (0, u "()V"), (0, .class_ 8), (0, u "java/lang/StringBuilder"), (0, .methodref 7 3), (0, .fieldref 11 12), (0, .class_ 13), (0, .nameAndType 14 15), (0, u "com/example/colophon/colophon/api/Html"), (0, u "out"), (0, u "Ljava/lang/StringBuilder;"), (7, .methodref 7 24), (0, .nameAndType 25 26), (0, u "append"), (0, u "(C)Ljava/lang/StringBuilder;"), (0, .methodref 7 28), (0, .nameAndType 25 29), (0, u "(Ljava/lang/String;)Ljava/lang/StringBuilder;"), (6, .string 37), (0, u "</"), (2, u "open"), (0, u "(Ljava/lang/String;[Ljava/lang/String;)Lcom/example/colophon/colophon/api/Html;"), (3, u "(Ljava/lang/String;)Lcom/example/colophon/colophon/api/Html;"), (2, u "close"), (13, .methodref 7 63), (0, .nameAndType 64 65), (0, u "toString"), (0, u "()Ljava/lang/String;")] 29

def k9c0 : Code := { maxStack := 3, maxLocals := 1, code := prog_5_method_1_code, exceptionTable := #[], attributes := #[] }
def k9m0 : Method := { name := "<init>", desc := "()V", sig := { parameters := [], returnType := none }, accessFlags := 0, code := some k9c0 }
def k9c1 : Code := { maxStack := 4, maxLocals := 4, code := prog_5_method_2_code, exceptionTable := #[], attributes := #[] }
def k9m1 : Method := { name := "open", desc := "(Ljava/lang/String;[Ljava/lang/String;)Lcom/example/colophon/colophon/api/Html;", sig := { parameters := [(.object "java/lang/String"), (.array (.object "java/lang/String"))], returnType := some (.object "com/example/colophon/colophon/api/Html") }, accessFlags := 128, code := some k9c1 }
def k9c2 : Code := { maxStack := 2, maxLocals := 2, code := prog_5_method_3_code, exceptionTable := #[], attributes := #[] }
def k9m2 : Method := { name := "close", desc := "(Ljava/lang/String;)Lcom/example/colophon/colophon/api/Html;", sig := { parameters := [(.object "java/lang/String")], returnType := some (.object "com/example/colophon/colophon/api/Html") }, accessFlags := 0, code := some k9c2 }
def k9c3 : Code := { maxStack := 1, maxLocals := 1, code := prog_5_method_8_code, exceptionTable := #[], attributes := #[] }
def k9m3 : Method := { name := "toString", desc := "()Ljava/lang/String;", sig := { parameters := [], returnType := some (.object "java/lang/String") }, accessFlags := 1, code := some k9c3 }
/-- com/example/colophon/colophon/api/Html -/
def k9 : Class := { plain "com/example/colophon/colophon/api/Html" (some 0) with
  accessFlags := 48
  interfaces := #[]
  cf := some (fileOf pool9 11 #[] #[⟨0, 5, 6, #[]⟩, ⟨128, 40, 41, #[]⟩, ⟨0, 48, 45, #[]⟩, ⟨1, 64, 65, #[]⟩] 48 2 #[] #[⟨18, 14, 15, #[]⟩])
  fields := #[⟨"out", (.object "java/lang/StringBuilder"), 18, 0, 0⟩]
  methods := #[k9m0, k9m1, k9m2, k9m3]
  instanceTypes := #[(.object "java/lang/StringBuilder")]
  staticTypes := #[]
  resolved := Array.replicate 95 none
  statics := none }

def pool10 : Array CpInfo := pool [(1, .class_ 2), (0, u "java/lang/Appendable"), (0, .class_ 4), (0, u "java/lang/Object")] 9

/-- java/lang/Appendable -/
def k10 : Class := { plain "java/lang/Appendable" (some 0) with
  accessFlags := 1537
  interfaces := #[]
  cf := some (fileOf pool10 1 #[] #[] 1537 3 #[] #[])
  fields := #[]
  methods := #[]
  instanceTypes := #[]
  staticTypes := #[]
  resolved := Array.replicate 14 none
  statics := none }

def pool11 : Array CpInfo := pool [(1, .class_ 2), (0, u "java/lang/String"), (0, .methodref 4 5), (0, .class_ 6), (0, .nameAndType 7 8), (0, u "java/lang/Object"), (0, u "<init>"), (0, u "()V"), (1, .class_ 12), (1, u "java/lang/AbstractStringBuilder"), (0, u "EMPTYVALUE"), (0, u "[B"), (0, .fieldref 10 16), (0, .nameAndType 17 14), (0, u "value"), (0, .fieldref 1 19), (0, .nameAndType 20 21), (0, u "COMPACT_STRINGS"), (0, u "Z"), (0, .fieldref 10 23), (0, .nameAndType 24 25), (0, u "coder"), (0, u "B"), (6, .methodref 1 33), (0, .nameAndType 34 35), (0, u "length"), (0, u "()I"), (4, .methodref 1 41), (0, .nameAndType 24 42), (0, u "()B"), (2, u "append"), (0, u "(Ljava/lang/String;)Ljava/lang/AbstractStringBuilder;"), (1, .class_ 49), (0, u "java/lang/CharSequence"), (19, u "(Ljava/lang/String;)V"), (5, u "maybeLatin1"), (3, .fieldref 10 80), (0, .nameAndType 81 82), (0, u "count"), (0, u "I"), (0, .methodref 10 84), (0, .nameAndType 85 86), (0, u "isLatin1"), (0, u "()Z"), (1, .class_ 90), (1, u "java/lang/StringLatin1"), (9, .methodref 10 101), (0, .nameAndType 102 103), (0, u "ensureCapacityInternal"), (0, u "(I)V"), (87, .methodref 88 192), (0, .nameAndType 193 194), (0, u "canEncode"), (0, u "(C)Z"), (13, .methodref 10 209), (0, .nameAndType 210 211), (0, u "putStringAt"), (0, u "(ILjava/lang/String;)V"), (5, u "inflateIfNeededFor"), (2, .nameAndType 221 222), (0, u "getBytes"), (0, u "([BIB)V"), (69, u "(C)Ljava/lang/AbstractStringBuilder;"), (104, .methodref 10 398), (0, .nameAndType 217 69), (0, .methodref 1 220), (3, u "()[B"), (40, .class_ 445), (0, u "java/lang/Appendable"), (106, u "getValue")] 56

def k11m0 : Method := { name := "<init>", desc := "()V", sig := { parameters := [], returnType := none }, accessFlags := 0, code := none }
def k11c1 : Code := { maxStack := 2, maxLocals := 2, code := jdk_68_method_2_code, exceptionTable := #[], attributes := #[] }
def k11m1 : Method := { name := "<init>", desc := "(I)V", sig := { parameters := [.int], returnType := none }, accessFlags := 0, code := some k11c1 }
def k11c2 : Code := { maxStack := 1, maxLocals := 1, code := jdk_68_method_6_code, exceptionTable := #[], attributes := #[] }
def k11m2 : Method := { name := "length", desc := "()I", sig := { parameters := [], returnType := some .int }, accessFlags := 1, code := some k11c2 }
def k11c3 : Code := { maxStack := 4, maxLocals := 3, code := jdk_68_method_9_code, exceptionTable := #[], attributes := #[] }
def k11m3 : Method := { name := "ensureCapacityInternal", desc := "(I)V", sig := { parameters := [.int], returnType := none }, accessFlags := 2, code := some k11c3 }
def k11c4 : Code := { maxStack := 3, maxLocals := 3, code := jdk_68_method_22_code, exceptionTable := #[], attributes := #[] }
def k11m4 : Method := { name := "append", desc := "(Ljava/lang/String;)Ljava/lang/AbstractStringBuilder;", sig := { parameters := [(.object "java/lang/String")], returnType := some (.object "java/lang/AbstractStringBuilder") }, accessFlags := 1, code := some k11c4 }
def k11c5 : Code := { maxStack := 5, maxLocals := 2, code := jdk_68_method_31_code, exceptionTable := #[], attributes := #[] }
def k11m5 : Method := { name := "append", desc := "(C)Ljava/lang/AbstractStringBuilder;", sig := { parameters := [.char], returnType := some (.object "java/lang/AbstractStringBuilder") }, accessFlags := 1, code := some k11c5 }
def k11c6 : Code := { maxStack := 1, maxLocals := 1, code := jdk_68_method_64_code, exceptionTable := #[], attributes := #[] }
def k11m6 : Method := { name := "getValue", desc := "()[B", sig := { parameters := [], returnType := some (.array .byte) }, accessFlags := 16, code := some k11c6 }
def k11c7 : Code := { maxStack := 1, maxLocals := 1, code := jdk_68_method_68_code, exceptionTable := #[], attributes := #[] }
def k11m7 : Method := { name := "isLatin1", desc := "()Z", sig := { parameters := [], returnType := some .boolean }, accessFlags := 16, code := some k11c7 }
def k11c8 : Code := { maxStack := 2, maxLocals := 2, code := jdk_68_method_71_code, exceptionTable := #[], attributes := #[] }
def k11m8 : Method := { name := "inflateIfNeededFor", desc := "(Ljava/lang/String;)V", sig := { parameters := [(.object "java/lang/String")], returnType := none }, accessFlags := 2, code := some k11c8 }
def k11c9 : Code := { maxStack := 4, maxLocals := 3, code := jdk_68_method_73_code, exceptionTable := #[], attributes := #[] }
def k11m9 : Method := { name := "putStringAt", desc := "(ILjava/lang/String;)V", sig := { parameters := [.int, (.object "java/lang/String")], returnType := none }, accessFlags := 2, code := some k11c9 }
/-- java/lang/AbstractStringBuilder -/
def k11 : Class := { plain "java/lang/AbstractStringBuilder" (some 0) with
  accessFlags := 1056
  interfaces := #[10, 4]
  cf := some (fileOf pool11 10 #[] #[⟨0, 7, 8, #[]⟩, ⟨0, 7, 103, #[]⟩, ⟨1, 34, 35, #[]⟩, ⟨2, 102, 103, #[]⟩, ⟨1, 45, 46, #[]⟩, ⟨1, 45, 292, #[]⟩, ⟨16, 552, 403, #[]⟩, ⟨16, 85, 86, #[]⟩, ⟨2, 217, 69, #[]⟩, ⟨2, 210, 211, #[]⟩] 1056 4 #[444, 48] #[⟨0, 17, 14, #[]⟩, ⟨0, 24, 25, #[]⟩, ⟨0, 75, 21, #[]⟩, ⟨0, 81, 82, #[]⟩, ⟨26, 13, 14, #[]⟩])
  fields := #[⟨"value", (.array .byte), 0, 0, 0⟩, ⟨"coder", .byte, 0, 1, 0⟩, ⟨"maybeLatin1", .boolean, 0, 2, 0⟩, ⟨"count", .int, 0, 3, 0⟩, ⟨"EMPTYVALUE", (.array .byte), 26, 0, 0⟩]
  methods := #[k11m0, k11m1, k11m2, k11m3, k11m4, k11m5, k11m6, k11m7, k11m8, k11m9]
  instanceTypes := #[(.array .byte), .byte, .boolean, .int]
  staticTypes := #[(.array .byte)]
  resolved := Array.replicate 609 none
  statics := none }

def pool12 : Array CpInfo := pool [(1, .methodref 2 3), (0, .class_ 4), (0, .nameAndType 5 6), (0, u "java/lang/AbstractStringBuilder"), (0, u "<init>"), (0, u "(I)V"), (11, .class_ 20), (1, u "java/lang/String"), (3, .class_ 26), (1, u "java/lang/StringBuilder"), (0, u "append"), (0, u "(Ljava/lang/String;)Ljava/lang/StringBuilder;"), (0, .methodref 2 30), (0, .nameAndType 27 31), (0, u "(Ljava/lang/String;)Ljava/lang/AbstractStringBuilder;"), (18, .methodref 2 51), (0, .nameAndType 27 52), (0, u "(C)Ljava/lang/AbstractStringBuilder;"), (84, .methodref 18 138), (0, .nameAndType 5 139), (0, u "(Ljava/lang/StringBuilder;)V"), (5, u "()V"), (10, u "()I"), (129, u "(C)Ljava/lang/StringBuilder;"), (56, .methodref 2 344), (0, .nameAndType 345 156), (0, u "length"), (3, .class_ 350), (0, u "java/lang/Appendable"), (0, .class_ 352), (0, u "java/io/Serializable"), (0, .class_ 354), (0, u "java/lang/Comparable"), (0, .class_ 356), (0, u "java/lang/CharSequence"), (0, u "serialVersionUID"), (0, u "J"), (40, u "toString"), (0, u "()Ljava/lang/String;")] 21

def k12c0 : Code := { maxStack := 2, maxLocals := 1, code := jdk_67_method_1_code, exceptionTable := #[], attributes := #[] }
def k12m0 : Method := { name := "<init>", desc := "()V", sig := { parameters := [], returnType := none }, accessFlags := 1, code := some k12c0 }
def k12c1 : Code := { maxStack := 2, maxLocals := 2, code := jdk_67_method_7_code, exceptionTable := #[], attributes := #[] }
def k12m1 : Method := { name := "append", desc := "(Ljava/lang/String;)Ljava/lang/StringBuilder;", sig := { parameters := [(.object "java/lang/String")], returnType := some (.object "java/lang/StringBuilder") }, accessFlags := 1, code := some k12c1 }
def k12c2 : Code := { maxStack := 2, maxLocals := 2, code := jdk_67_method_14_code, exceptionTable := #[], attributes := #[] }
def k12m2 : Method := { name := "append", desc := "(C)Ljava/lang/StringBuilder;", sig := { parameters := [.char], returnType := some (.object "java/lang/StringBuilder") }, accessFlags := 1, code := some k12c2 }
def k12c3 : Code := { maxStack := 3, maxLocals := 1, code := jdk_67_method_42_code, exceptionTable := #[], attributes := #[] }
def k12m3 : Method := { name := "toString", desc := "()Ljava/lang/String;", sig := { parameters := [], returnType := some (.object "java/lang/String") }, accessFlags := 1, code := some k12c3 }
def k12c4 : Code := { maxStack := 1, maxLocals := 1, code := jdk_67_method_93_code, exceptionTable := #[], attributes := #[] }
def k12m4 : Method := { name := "length", desc := "()I", sig := { parameters := [], returnType := some .int }, accessFlags := 4161, code := some k12c4 }
/-- java/lang/StringBuilder -/
def k12 : Class := { plain "java/lang/StringBuilder" (some 11) with
  accessFlags := 49
  interfaces := #[10, 2, 3, 4]
  cf := some (fileOf pool12 24 #[] #[⟨1, 5, 145, #[]⟩, ⟨1, 27, 28, #[]⟩, ⟨1, 27, 286, #[]⟩, ⟨1, 399, 400, #[]⟩, ⟨4161, 345, 156, #[]⟩] 49 2 #[349, 351, 353, 355] #[⟨24, 357, 358, #[]⟩])
  fields := #[⟨"serialVersionUID", .long, 24, 0, 0⟩]
  methods := #[k12m0, k12m1, k12m2, k12m3, k12m4]
  instanceTypes := #[(.array .byte), .byte, .boolean, .int]
  staticTypes := #[.long]
  resolved := Array.replicate 422 none
  statics := none }

def pool13 : Array CpInfo := pool [(2, .class_ 4), (1, u "java/lang/Object"), (0, u "<init>"), (0, u "()V"), (1, .class_ 10), (1, u "java/lang/System"), (0, u "allowSecurityManager"), (0, u "I"), (16, u "cons"), (0, u "Ljava/io/Console;"), (77, .class_ 110), (1, u "java/lang/System$CallersHolder"), (43, u "initialErrStream"), (0, u "Ljava/io/PrintStream;"), (19, u "security"), (0, u "Ljava/lang/SecurityManager;"), (31, .class_ 209), (0, u "java/lang/System$1"), (7, u "props"), (0, u "Ljava/util/Properties;"), (2, u "lineSeparator"), (0, u "Ljava/lang/String;"), (96, .class_ 321), (1, u "java/lang/System$LoggerFinder"), (5, .class_ 328), (0, u "java/lang/System$Logger"), (67, u "err"), (2, u "out"), (91, u "notSupportedJnuEncoding"), (15, u "in"), (17, u "initialIn"), (0, u "Ljava/io/InputStream;"), (35, u "bootLayer"), (0, u "Ljava/lang/ModuleLayer;"), (99, .class_ 664), (0, u "java/lang/System$2"), (9, u "NEVER"), (2, u "MAYBE"), (49, u "arraycopy"), (0, u "(Ljava/lang/Object;ILjava/lang/Object;II)V"), (72, .class_ 802), (0, u "java/lang/System$Logger$Level")] 31

def k13m0 : Method := { name := "<init>", desc := "()V", sig := { parameters := [], returnType := none }, accessFlags := 2, code := none }
def k13m1 : Method := { name := "arraycopy", desc := "(Ljava/lang/Object;ILjava/lang/Object;II)V", sig := { parameters := [(.object "java/lang/Object"), .int, (.object "java/lang/Object"), .int, .int], returnType := none }, accessFlags := 265, code := none }
/-- java/lang/System -/
def k13 : Class := { plain "java/lang/System" (some 0) with
  accessFlags := 49
  interfaces := #[]
  cf := some (fileOf pool13 8 #[.nestMembers #[319, 327, 801, 108, 663, 208]] #[⟨2, 5, 6, #[]⟩, ⟨265, 727, 728, #[]⟩] 49 2 #[] #[⟨25, 507, 526, #[]⟩, ⟨25, 399, 155, #[]⟩, ⟨25, 396, 155, #[]⟩, ⟨10, 525, 526, #[]⟩, ⟨26, 674, 12, #[]⟩, ⟨26, 677, 12, #[]⟩, ⟨10, 11, 12, #[]⟩, ⟨74, 175, 176, #[]⟩, ⟨10, 491, 222, #[]⟩, ⟨74, 29, 30, #[]⟩, ⟨74, 154, 155, #[]⟩, ⟨10, 217, 218, #[]⟩, ⟨10, 221, 222, #[]⟩, ⟨8, 562, 563, #[]⟩])
  fields := #[⟨"in", (.object "java/io/InputStream"), 25, 0, 0⟩, ⟨"out", (.object "java/io/PrintStream"), 25, 1, 0⟩, ⟨"err", (.object "java/io/PrintStream"), 25, 2, 0⟩, ⟨"initialIn", (.object "java/io/InputStream"), 10, 3, 0⟩, ⟨"NEVER", .int, 26, 4, 0⟩, ⟨"MAYBE", .int, 26, 5, 0⟩, ⟨"allowSecurityManager", .int, 10, 6, 0⟩, ⟨"security", (.object "java/lang/SecurityManager"), 74, 7, 0⟩, ⟨"notSupportedJnuEncoding", (.object "java/lang/String"), 10, 8, 0⟩, ⟨"cons", (.object "java/io/Console"), 74, 9, 0⟩, ⟨"initialErrStream", (.object "java/io/PrintStream"), 74, 10, 0⟩, ⟨"props", (.object "java/util/Properties"), 10, 11, 0⟩, ⟨"lineSeparator", (.object "java/lang/String"), 10, 12, 0⟩, ⟨"bootLayer", (.object "java/lang/ModuleLayer"), 8, 13, 0⟩]
  methods := #[k13m0, k13m1]
  instanceTypes := #[]
  staticTypes := #[(.object "java/io/InputStream"), (.object "java/io/PrintStream"), (.object "java/io/PrintStream"), (.object "java/io/InputStream"), .int, .int, .int, (.object "java/lang/SecurityManager"), (.object "java/lang/String"), (.object "java/io/Console"), (.object "java/io/PrintStream"), (.object "java/util/Properties"), (.object "java/lang/String"), (.object "java/lang/ModuleLayer")]
  resolved := Array.replicate 834 none
  statics := none }

def pool14 : Array CpInfo := pool [(4, .class_ 6), (1, u "java/lang/Object"), (0, u "<init>"), (0, u "()V"), (5, .class_ 16), (1, u "java/lang/StringLatin1"), (73, u "canEncode"), (14, u "(C)Z"), (15, u "$assertionsDisabled"), (0, u "Z"), (98, .class_ 223), (1, u "java/lang/StringLatin1$LinesSpliterator"), (57, u "equals"), (0, u "([B[B)Z"), (97, u "toBytes"), (1, u "(C)[B"), (7, .class_ 391), (0, u "java/lang/StringLatin1$CharsSpliterator")] 3

def k14m0 : Method := { name := "<init>", desc := "()V", sig := { parameters := [], returnType := none }, accessFlags := 0, code := none }
def k14c1 : Code := { maxStack := 2, maxLocals := 1, code := jdk_43_method_3_code, exceptionTable := #[], attributes := #[] }
def k14m1 : Method := { name := "canEncode", desc := "(C)Z", sig := { parameters := [.char], returnType := some .boolean }, accessFlags := 9, code := some k14c1 }
def k14c2 : Code := { maxStack := 3, maxLocals := 3, code := jdk_43_method_13_code, exceptionTable := #[], attributes := #[] }
def k14m2 : Method := { name := "equals", desc := "([B[B)Z", sig := { parameters := [(.array .byte), (.array .byte)], returnType := some .boolean }, accessFlags := 9, code := some k14c2 }
def k14c3 : Code := { maxStack := 4, maxLocals := 1, code := jdk_43_method_46_code, exceptionTable := #[], attributes := #[] }
def k14m3 : Method := { name := "toBytes", desc := "(C)[B", sig := { parameters := [.char], returnType := some (.array .byte) }, accessFlags := 9, code := some k14c3 }
/-- java/lang/StringLatin1 -/
def k14 : Class := { plain "java/lang/StringLatin1" (some 0) with
  accessFlags := 48
  interfaces := #[]
  cf := some (fileOf pool14 14 #[.nestMembers #[390, 221]] #[⟨0, 7, 8, #[]⟩, ⟨9, 90, 105, #[]⟩, ⟨9, 281, 282, #[]⟩, ⟨9, 380, 382, #[]⟩] 48 4 #[] #[⟨4120, 121, 122, #[]⟩])
  fields := #[⟨"$assertionsDisabled", .boolean, 4120, 0, 0⟩]
  methods := #[k14m0, k14m1, k14m2, k14m3]
  instanceTypes := #[]
  staticTypes := #[.boolean]
  resolved := Array.replicate 395 none
  statics := none }

def pool15 : Array CpInfo := pool [(2, .class_ 4), (1, u "java/lang/Object"), (0, u "<init>"), (0, u "()V"), (7, .class_ 16), (1, u "java/util/Arrays"), (57, .class_ 76), (1, u "java/util/Arrays$NaturalOrder"), (36, .class_ 115), (1, u "java/util/Arrays$LegacyMergeSort"), (1, u "Z"), (21, u "copyOfRange"), (10, .methodref 151 152), (0, .class_ 153), (0, .nameAndType 154 155), (0, u "java/lang/System"), (0, u "arraycopy"), (0, u "(Ljava/lang/Object;ILjava/lang/Object;II)V"), (148, .methodref 305 306), (0, .class_ 307), (0, .nameAndType 308 309), (0, u "java/lang/Math"), (0, u "min"), (0, u "(II)I"), (29, .methodref 14 340), (0, .nameAndType 341 342), (0, u "copyOfRangeByte"), (0, u "([BII)[B"), (0, .methodref 14 344), (0, .nameAndType 345 346), (0, u "checkLength"), (0, u "(II)V"), (28, .class_ 376), (0, u "java/util/Arrays$ArrayList"), (68, u "$assertionsDisabled"), (269, u "MIN_ARRAY_SORT_GRAN"), (0, u "I"), (2, u "INSERTIONSORT_THRESHOLD"), (255, .class_ 976), (0, u "java/util/Arrays$ArrayItr")] 52

def k15m0 : Method := { name := "<init>", desc := "()V", sig := { parameters := [], returnType := none }, accessFlags := 2, code := none }
def k15c1 : Code := { maxStack := 4, maxLocals := 2, code := jdk_65_method_131_code, exceptionTable := #[], attributes := #[] }
def k15m1 : Method := { name := "checkLength", desc := "(II)V", sig := { parameters := [.int, .int], returnType := none }, accessFlags := 10, code := some k15c1 }
def k15c2 : Code := { maxStack := 3, maxLocals := 3, code := jdk_65_method_132_code, exceptionTable := #[], attributes := #[] }
def k15m2 : Method := { name := "copyOfRange", desc := "([BII)[B", sig := { parameters := [(.array .byte), .int, .int], returnType := some (.array .byte) }, accessFlags := 9, code := some k15c2 }
def k15c3 : Code := { maxStack := 6, maxLocals := 5, code := jdk_65_method_133_code, exceptionTable := #[], attributes := #[] }
def k15m3 : Method := { name := "copyOfRangeByte", desc := "([BII)[B", sig := { parameters := [(.array .byte), .int, .int], returnType := some (.array .byte) }, accessFlags := 10, code := some k15c3 }
/-- java/util/Arrays -/
def k15 : Class := { plain "java/util/Arrays" (some 0) with
  accessFlags := 49
  interfaces := #[]
  cf := some (fileOf pool15 14 #[.nestMembers #[975, 375, 113, 74]] #[⟨2, 5, 6, #[]⟩, ⟨10, 345, 346, #[]⟩, ⟨9, 139, 342, #[]⟩, ⟨10, 341, 342, #[]⟩] 49 2 #[] #[⟨26, 715, 716, #[]⟩, ⟨26, 719, 716, #[]⟩, ⟨4120, 445, 117, #[]⟩])
  fields := #[⟨"MIN_ARRAY_SORT_GRAN", .int, 26, 0, 0⟩, ⟨"INSERTIONSORT_THRESHOLD", .int, 26, 1, 0⟩, ⟨"$assertionsDisabled", .boolean, 4120, 2, 0⟩]
  methods := #[k15m0, k15m1, k15m2, k15m3]
  instanceTypes := #[]
  staticTypes := #[.int, .int, .boolean]
  resolved := Array.replicate 1029 none
  statics := none }

def pool16 : Array CpInfo := pool [(1, .class_ 2), (0, u "java/lang/Math"), (1, .class_ 6), (1, u "java/lang/Object"), (0, u "<init>"), (0, u "()V"), (89, .class_ 100), (1, u "java/lang/Math$RandomNumberGeneratorHolder"), (71, u "negativeZeroFloatBits"), (0, u "J"), (2, u "negativeZeroDoubleBits"), (24, u "min"), (43, u "$assertionsDisabled"), (0, u "Z"), (88, u "(II)I"), (2, u "twoToTheDoubleScaleDown"), (0, u "D"), (4, u "twoToTheDoubleScaleUp"), (9, u "E"), (3, u "PI"), (2, u "TAU"), (2, u "DEGREES_TO_RADIANS"), (0, u "RADIANS_TO_DEGREES")] 94

def k16m0 : Method := { name := "<init>", desc := "()V", sig := { parameters := [], returnType := none }, accessFlags := 2, code := none }
def k16c1 : Code := { maxStack := 2, maxLocals := 2, code := jdk_29_method_69_code, exceptionTable := #[], attributes := #[] }
def k16m1 : Method := { name := "min", desc := "(II)I", sig := { parameters := [.int, .int], returnType := some .int }, accessFlags := 9, code := some k16c1 }
/-- java/lang/Math -/
def k16 : Class := { plain "java/lang/Math" (some 0) with
  accessFlags := 49
  interfaces := #[]
  cf := some (fileOf pool16 1 #[.nestMembers #[98]] #[⟨2, 7, 8, #[]⟩, ⟨9, 201, 335, #[]⟩] 49 4 #[] #[⟨25, 354, 339, #[]⟩, ⟨25, 358, 339, #[]⟩, ⟨25, 361, 339, #[]⟩, ⟨26, 364, 339, #[]⟩, ⟨26, 365, 339, #[]⟩, ⟨26, 172, 173, #[]⟩, ⟨26, 176, 173, #[]⟩, ⟨8, 344, 339, #[]⟩, ⟨8, 338, 339, #[]⟩, ⟨4120, 245, 246, #[]⟩])
  fields := #[⟨"E", .double, 25, 0, 0⟩, ⟨"PI", .double, 25, 1, 0⟩, ⟨"TAU", .double, 25, 2, 0⟩, ⟨"DEGREES_TO_RADIANS", .double, 26, 3, 0⟩, ⟨"RADIANS_TO_DEGREES", .double, 26, 4, 0⟩, ⟨"negativeZeroFloatBits", .long, 26, 5, 0⟩, ⟨"negativeZeroDoubleBits", .long, 26, 6, 0⟩, ⟨"twoToTheDoubleScaleUp", .double, 8, 7, 0⟩, ⟨"twoToTheDoubleScaleDown", .double, 8, 8, 0⟩, ⟨"$assertionsDisabled", .boolean, 4120, 9, 0⟩]
  methods := #[k16m0, k16m1]
  instanceTypes := #[]
  staticTypes := #[.double, .double, .double, .double, .double, .long, .long, .double, .double, .boolean]
  resolved := Array.replicate 460 none
  statics := none }

def pool17 : Array CpInfo := pool [(2, .class_ 4), (1, u "java/lang/Object"), (0, u "<init>"), (0, u "()V"), (17, .class_ 26), (1, u "jdk/internal/util/Preconditions"), (28, .class_ 56), (0, u "jdk/internal/util/Preconditions$4"), (57, .class_ 115), (0, u "jdk/internal/util/Preconditions$1"), (7, u "SIOOBE_FORMATTER"), (0, u "Ljava/util/function/BiFunction;"), (0, .class_ 126), (0, u "jdk/internal/util/Preconditions$2"), (3, u "AIOOBE_FORMATTER"), (0, .class_ 132), (0, u "jdk/internal/util/Preconditions$3"), (3, u "IOOBE_FORMATTER")] 57

def k17m0 : Method := { name := "<init>", desc := "()V", sig := { parameters := [], returnType := none }, accessFlags := 1, code := none }
/-- jdk/internal/util/Preconditions -/
def k17 : Class := { plain "jdk/internal/util/Preconditions" (some 0) with
  accessFlags := 33
  interfaces := #[]
  cf := some (fileOf pool17 24 #[.nestMembers #[55, 131, 125, 114]] #[⟨1, 5, 6, #[]⟩] 33 2 #[] #[⟨25, 123, 124, #[]⟩, ⟨25, 130, 124, #[]⟩, ⟨25, 136, 124, #[]⟩])
  fields := #[⟨"SIOOBE_FORMATTER", (.object "java/util/function/BiFunction"), 25, 0, 0⟩, ⟨"AIOOBE_FORMATTER", (.object "java/util/function/BiFunction"), 25, 1, 0⟩, ⟨"IOOBE_FORMATTER", (.object "java/util/function/BiFunction"), 25, 2, 0⟩]
  methods := #[k17m0]
  instanceTypes := #[]
  staticTypes := #[(.object "java/util/function/BiFunction"), (.object "java/util/function/BiFunction"), (.object "java/util/function/BiFunction")]
  resolved := Array.replicate 194 none
  statics := some 1 }

def pool18 : Array CpInfo := pool [(9, u "<init>"), (6, .class_ 18), (1, u "java/lang/Object"), (0, u "()V"), (1, .class_ 23), (1, u "jdk/internal/util/ArraysSupport"), (0, u "LOG2_ARRAY_LONG_INDEX_SCALE"), (0, u "I"), (2, u "U"), (0, u "Ljdk/internal/misc/Unsafe;"), (8, u "BIG_ENDIAN"), (0, u "Z"), (8, u "LOG2_BYTE_BIT_SIZE"), (4, u "LOG2_ARRAY_INT_INDEX_SCALE"), (54, u "JLA"), (0, u "Ljdk/internal/access/JavaLangAccess;"), (11, u "LOG2_ARRAY_BOOLEAN_INDEX_SCALE"), (9, u "LOG2_ARRAY_BYTE_INDEX_SCALE"), (5, u "LOG2_ARRAY_CHAR_INDEX_SCALE"), (5, u "LOG2_ARRAY_SHORT_INDEX_SCALE"), (18, u "LOG2_ARRAY_FLOAT_INDEX_SCALE"), (24, u "LOG2_ARRAY_DOUBLE_INDEX_SCALE"), (89, u "T_BOOLEAN"), (2, u "T_CHAR"), (1, u "T_FLOAT"), (1, u "T_DOUBLE"), (1, u "T_BYTE"), (1, u "T_SHORT"), (1, u "T_INT"), (1, u "T_LONG"), (1, u "SOFT_MAX_ARRAY_LENGTH")] 83

def k18m0 : Method := { name := "<init>", desc := "()V", sig := { parameters := [], returnType := none }, accessFlags := 2, code := none }
/-- jdk/internal/util/ArraysSupport -/
def k18 : Class := { plain "jdk/internal/util/ArraysSupport" (some 0) with
  accessFlags := 33
  interfaces := #[]
  cf := some (fileOf pool18 21 #[] #[⟨2, 9, 19, #[]⟩] 33 16 #[] #[⟨24, 28, 29, #[]⟩, ⟨26, 38, 39, #[]⟩, ⟨25, 121, 25, #[]⟩, ⟨25, 131, 25, #[]⟩, ⟨25, 137, 25, #[]⟩, ⟨25, 143, 25, #[]⟩, ⟨25, 53, 25, #[]⟩, ⟨25, 24, 25, #[]⟩, ⟨25, 162, 25, #[]⟩, ⟨25, 187, 25, #[]⟩, ⟨26, 48, 25, #[]⟩, ⟨25, 277, 25, #[]⟩, ⟨25, 280, 25, #[]⟩, ⟨25, 282, 25, #[]⟩, ⟨25, 284, 25, #[]⟩, ⟨25, 286, 25, #[]⟩, ⟨25, 288, 25, #[]⟩, ⟨25, 290, 25, #[]⟩, ⟨25, 292, 25, #[]⟩, ⟨26, 108, 109, #[]⟩, ⟨25, 294, 25, #[]⟩])
  fields := #[⟨"U", (.object "jdk/internal/misc/Unsafe"), 24, 0, 0⟩, ⟨"BIG_ENDIAN", .boolean, 26, 1, 0⟩, ⟨"LOG2_ARRAY_BOOLEAN_INDEX_SCALE", .int, 25, 2, 0⟩, ⟨"LOG2_ARRAY_BYTE_INDEX_SCALE", .int, 25, 3, 0⟩, ⟨"LOG2_ARRAY_CHAR_INDEX_SCALE", .int, 25, 4, 0⟩, ⟨"LOG2_ARRAY_SHORT_INDEX_SCALE", .int, 25, 5, 0⟩, ⟨"LOG2_ARRAY_INT_INDEX_SCALE", .int, 25, 6, 0⟩, ⟨"LOG2_ARRAY_LONG_INDEX_SCALE", .int, 25, 7, 0⟩, ⟨"LOG2_ARRAY_FLOAT_INDEX_SCALE", .int, 25, 8, 0⟩, ⟨"LOG2_ARRAY_DOUBLE_INDEX_SCALE", .int, 25, 9, 0⟩, ⟨"LOG2_BYTE_BIT_SIZE", .int, 26, 10, 0⟩, ⟨"T_BOOLEAN", .int, 25, 11, 0⟩, ⟨"T_CHAR", .int, 25, 12, 0⟩, ⟨"T_FLOAT", .int, 25, 13, 0⟩, ⟨"T_DOUBLE", .int, 25, 14, 0⟩, ⟨"T_BYTE", .int, 25, 15, 0⟩, ⟨"T_SHORT", .int, 25, 16, 0⟩, ⟨"T_INT", .int, 25, 17, 0⟩, ⟨"T_LONG", .int, 25, 18, 0⟩, ⟨"JLA", (.object "jdk/internal/access/JavaLangAccess"), 26, 19, 0⟩, ⟨"SOFT_MAX_ARRAY_LENGTH", .int, 25, 20, 0⟩]
  methods := #[k18m0]
  instanceTypes := #[]
  staticTypes := #[(.object "jdk/internal/misc/Unsafe"), .boolean, .int, .int, .int, .int, .int, .int, .int, .int, .int, .int, .int, .int, .int, .int, .int, .int, .int, (.object "jdk/internal/access/JavaLangAccess"), .int]
  resolved := Array.replicate 378 none
  statics := none }

def pool19 : Array CpInfo := pool [(1, u "java/lang/Cloneable"), (0, .class_ 1), (0, u "java/lang/Object"), (0, .class_ 3)] 3

/-- java/lang/Cloneable -/
def k19 : Class := { plain "java/lang/Cloneable" (some 0) with
  accessFlags := 1537
  interfaces := #[]
  cf := some (fileOf pool19 2 #[] #[] 1537 4 #[] #[])
  fields := #[]
  methods := #[]
  instanceTypes := #[]
  staticTypes := #[]
  resolved := Array.replicate 8 none
  statics := none }

/-- the primitive byte -/
def k20 : Class := { plain "byte" none with kind := .primitive 'B', accessFlags := 0x411 }
/-- [B -/
def k21 : Class := { plain "[B" (some 0) with kind := .array 20 .byte, interfaces := #[19, 2], accessFlags := 1041 }

/-- the primitive char -/
def k22 : Class := { plain "char" none with kind := .primitive 'C', accessFlags := 0x411 }
/-- [C -/
def k23 : Class := { plain "[C" (some 0) with kind := .array 22 .char, interfaces := #[19, 2], accessFlags := 1041 }

/-- the primitive int -/
def k24 : Class := { plain "int" none with kind := .primitive 'I', accessFlags := 0x411 }
/-- [I -/
def k25 : Class := { plain "[I" (some 0) with kind := .array 24 .int, interfaces := #[19, 2], accessFlags := 1041 }

/-- [Ljava/lang/String; -/
def k26 : Class := { plain "[Ljava/lang/String;" (some 0) with kind := .array 7 (.object "java/lang/String"), interfaces := #[19, 2], accessFlags := 1041 }

def heap : Heap := #[{ cls := 7, slots := #[.long 0, .int 1, .null, .int 0, .null, .int 0, .int 0], vm := .statics 7 },
  { cls := 17, slots := #[.null, .null, .null], vm := .statics 17 }]
def classes : Array Class := #[k0, k1, k2, k3, k4, k5, k6, k7, k8, k9, k10, k11, k12, k13, k14, k15, k16, k17, k18, k19, k20, k21, k22, k23, k24, k25, k26]
def interned : List (Array UInt16 × Addr) := []
def slotsUsed : Nat := 10
def theMethod : MethodId := ⟨1, 1⟩
def args0 : Array Value := #[.int 5, .int 6, .int 7, .int 8, .int 9]
def aboutOver (below : List Frame) : State where
  vm := { classes := classes, interned := interned.toArray }
  heap := heap
  slotsUsed := slotsUsed
  threads := #[{ frames := .invoking theMethod args0 :: below }]
def below0 : List Frame := [.native { method := ⟨0, 0⟩, args := #[] }]
def about1 : State := aboutOver below0
def p0 : Program := .bare "" "" ""
def e0 : Env := launch0.env 0 0 0
theorem w_frames : about1.frames = Frame.invoking theMethod args0 :: below0 := rfl
set_option maxRecDepth 65536 in
theorem w_args : argsFit about1.vm theMethod args0 = true := by decide +kernel
set_option maxRecDepth 65536 in
theorem w_heap : heapFits about1 = true := by decide +kernel
set_option maxRecDepth 65536 in
theorem w_runnable : about1.curStatus? = some .runnable := by decide +kernel
set_option maxRecDepth 65536 in
theorem w_alone : about1.alone = true := by decide +kernel
set_option maxRecDepth 65536 in
theorem w_named : about1.methodNamed? x = some theMethod := by decide +kernel
set_option maxRecDepth 65536 in
theorem w_hears : about1.hears theMethod below0 = true := by decide +kernel
set_option maxRecDepth 65536 in
theorem w_ripe : about1.ripe theMethod args0 below0 = true := by decide +kernel
theorem w_running : about1.status = .running := rfl
set_option maxRecDepth 65536 in
theorem w_room : about1.hasRoom e0.platform room_1 = true :=
  launch0.hasRoom_least _ room_1 (by decide +kernel) (by decide +kernel) (by decide +kernel) (by decide +kernel) (by decide +kernel) (by decide +kernel)
theorem allAtoms_all (ts : List Jvm.Cond) (a : Array Jvm.Value) (st : Jvm.State) : (allAtoms ts).before a st = ts.all (fun c => c.before a st) := by
  induction ts with
  | nil => rfl
  | cons c t ih =>
    show (Jvm.Cond.and c (allAtoms t)).before a st = _
    rw [Jvm.Cond.before_and, ih, List.all_cons]
def words1 : List Jvm.Cond := Jvm.Cond.code x code maxLocals ret :: tables_1
/-- a 'code' word, met by the world's own term for the bytes: nothing is compared byte by byte -/
theorem code_word {y : MethodName} {bytes : ByteArray} {mx : Nat} {rt : Option FieldType} {a : Array Value} {s : State} {m : MethodId} {meth : Method} {c : Code} (h1 : s.methodNamed? y = some m) (h2 : s.vm.method? m = some meth) (h3 : meth.code = some c) (h4 : c.code = bytes)
    (h5 : (c.maxLocals == mx && c.exceptionTable.isEmpty && decide (c.maxStack ≤ mostOperands) && decide (meth.sig.returnType = rt) && !meth.locks && decide (parseMethodDescriptor y.desc = some meth.sig)) = true) : (Jvm.Cond.code y bytes mx rt).before a s = true := by
  simp only [Bool.and_eq_true, beq_iff_eq, Bool.not_eq_true', decide_eq_true_eq] at h5
  obtain ⟨⟨⟨⟨⟨g1, g2⟩, g3⟩, g4⟩, g5⟩, g6⟩ := h5
  simp [Cond.before, Cond.holds, Cond.value, h1, h2, h3, h4, g1, g2, g3, g4, g5, g6]
def isCode : Jvm.Cond → Bool
  | .code _ _ _ _ => true
  | _ => false
theorem all_split {L : List Jvm.Cond} {P : Jvm.Cond → Bool} (h1 : L.all (fun c => isCode c || P c) = true) (h2 : ∀ c ∈ L.filter isCode, P c = true) : L.all P = true := by
  refine List.all_eq_true.mpr fun c hc => ?_
  have h := List.all_eq_true.mp h1 c hc
  rcases Bool.eq_false_or_eq_true (isCode c) with hi | hi
  · exact h2 c (List.mem_filter.mpr ⟨hc, hi⟩)
  · simpa [hi] using h
set_option maxRecDepth 65536 in
theorem w_c0 : (Jvm.Cond.code x code maxLocals ret).before args0 about1 = true := code_word (m := ⟨1, 1⟩) (meth := k1m1) (c := k1c1) (by decide +kernel) rfl rfl rfl (by decide +kernel)
set_option maxRecDepth 65536 in
theorem w_c1 : (Jvm.Cond.code ⟨"java/lang/String", "<init>", "([C)V"⟩ jdk_42_method_3_code (2 : Nat) (Option.none : Option Jvm.ClassFile.FieldType)).before args0 about1 = true := code_word (m := ⟨7, 1⟩) (meth := k7m1) (c := k7c1) (by decide +kernel) rfl rfl rfl (by decide +kernel)
set_option maxRecDepth 65536 in
theorem w_c2 : (Jvm.Cond.code ⟨"java/lang/String", "<init>", "([CIILjava/lang/Void;)V"⟩ jdk_42_method_149_code (6 : Nat) (Option.none : Option Jvm.ClassFile.FieldType)).before args0 about1 = true := code_word (m := ⟨7, 7⟩) (meth := k7m7) (c := k7c7) (by decide +kernel) rfl rfl rfl (by decide +kernel)
set_option maxRecDepth 65536 in
theorem w_c3 : (Jvm.Cond.code ⟨"java/lang/Object", "<init>", "()V"⟩ object_method_1_code (1 : Nat) (Option.none : Option Jvm.ClassFile.FieldType)).before args0 about1 = true := code_word (m := ⟨0, 0⟩) (meth := k0m0) (c := k0c0) (by decide +kernel) rfl rfl rfl (by decide +kernel)
set_option maxRecDepth 65536 in
theorem w_c4 : (Jvm.Cond.code ⟨"java/lang/StringUTF16", "compress", "([CII)[B"⟩ jdk_52_method_16_code (6 : Nat) (Option.some (Jvm.ClassFile.FieldType.array Jvm.ClassFile.FieldType.byte))).before args0 about1 = true := code_word (m := ⟨8, 2⟩) (meth := k8m2) (c := k8c2) (by decide +kernel) rfl rfl rfl (by decide +kernel)
set_option maxRecDepth 65536 in
theorem w_c5 : (Jvm.Cond.code ⟨"java/lang/StringUTF16", "compress", "([CI[BII)I"⟩ jdk_52_method_21_code (7 : Nat) (Option.some Jvm.ClassFile.FieldType.int)).before args0 about1 = true := code_word (m := ⟨8, 3⟩) (meth := k8m3) (c := k8c3) (by decide +kernel) rfl rfl rfl (by decide +kernel)
set_option maxRecDepth 65536 in
theorem w_c6 : (Jvm.Cond.code ⟨"java/lang/StringUTF16", "coderFromArrayLen", "([BI)B"⟩ jdk_52_method_15_code (2 : Nat) (Option.some Jvm.ClassFile.FieldType.byte)).before args0 about1 = true := code_word (m := ⟨8, 1⟩) (meth := k8m1) (c := k8c1) (by decide +kernel) rfl rfl rfl (by decide +kernel)
set_option maxRecDepth 65536 in
theorem w_c7 : (Jvm.Cond.code ⟨"com/example/colophon/colophon/api/Html", "<init>", "()V"⟩ prog_5_method_1_code (1 : Nat) (Option.none : Option Jvm.ClassFile.FieldType)).before args0 about1 = true := code_word (m := ⟨9, 0⟩) (meth := k9m0) (c := k9c0) (by decide +kernel) rfl rfl rfl (by decide +kernel)
set_option maxRecDepth 65536 in
theorem w_c8 : (Jvm.Cond.code ⟨"java/lang/StringBuilder", "<init>", "()V"⟩ jdk_67_method_1_code (1 : Nat) (Option.none : Option Jvm.ClassFile.FieldType)).before args0 about1 = true := code_word (m := ⟨12, 0⟩) (meth := k12m0) (c := k12c0) (by decide +kernel) rfl rfl rfl (by decide +kernel)
set_option maxRecDepth 65536 in
theorem w_c9 : (Jvm.Cond.code ⟨"java/lang/AbstractStringBuilder", "<init>", "(I)V"⟩ jdk_68_method_2_code (2 : Nat) (Option.none : Option Jvm.ClassFile.FieldType)).before args0 about1 = true := code_word (m := ⟨11, 1⟩) (meth := k11m1) (c := k11c1) (by decide +kernel) rfl rfl rfl (by decide +kernel)
set_option maxRecDepth 65536 in
theorem w_c10 : (Jvm.Cond.code ⟨"com/example/colophon/colophon/api/Html", "close", "(Ljava/lang/String;)Lcom/example/colophon/colophon/api/Html;"⟩ prog_5_method_3_code (2 : Nat) (Option.some (Jvm.ClassFile.FieldType.object "com/example/colophon/colophon/api/Html"))).before args0 about1 = true := code_word (m := ⟨9, 2⟩) (meth := k9m2) (c := k9c2) (by decide +kernel) rfl rfl rfl (by decide +kernel)
set_option maxRecDepth 65536 in
theorem w_c11 : (Jvm.Cond.code ⟨"java/lang/StringBuilder", "append", "(Ljava/lang/String;)Ljava/lang/StringBuilder;"⟩ jdk_67_method_7_code (2 : Nat) (Option.some (Jvm.ClassFile.FieldType.object "java/lang/StringBuilder"))).before args0 about1 = true := code_word (m := ⟨12, 1⟩) (meth := k12m1) (c := k12c1) (by decide +kernel) rfl rfl rfl (by decide +kernel)
set_option maxRecDepth 65536 in
theorem w_c12 : (Jvm.Cond.code ⟨"java/lang/AbstractStringBuilder", "append", "(Ljava/lang/String;)Ljava/lang/AbstractStringBuilder;"⟩ jdk_68_method_22_code (3 : Nat) (Option.some (Jvm.ClassFile.FieldType.object "java/lang/AbstractStringBuilder"))).before args0 about1 = true := code_word (m := ⟨11, 4⟩) (meth := k11m4) (c := k11c4) (by decide +kernel) rfl rfl rfl (by decide +kernel)
set_option maxRecDepth 65536 in
theorem w_c13 : (Jvm.Cond.code ⟨"java/lang/String", "length", "()I"⟩ jdk_42_method_54_code (1 : Nat) (Option.some Jvm.ClassFile.FieldType.int)).before args0 about1 = true := code_word (m := ⟨7, 3⟩) (meth := k7m3) (c := k7c3) (by decide +kernel) rfl rfl rfl (by decide +kernel)
set_option maxRecDepth 65536 in
theorem w_c14 : (Jvm.Cond.code ⟨"java/lang/String", "coder", "()B"⟩ jdk_42_method_152_code (1 : Nat) (Option.some Jvm.ClassFile.FieldType.byte)).before args0 about1 = true := code_word (m := ⟨7, 10⟩) (meth := k7m10) (c := k7c10) (by decide +kernel) rfl rfl rfl (by decide +kernel)
set_option maxRecDepth 65536 in
theorem w_c15 : (Jvm.Cond.code ⟨"java/lang/AbstractStringBuilder", "ensureCapacityInternal", "(I)V"⟩ jdk_68_method_9_code (3 : Nat) (Option.none : Option Jvm.ClassFile.FieldType)).before args0 about1 = true := code_word (m := ⟨11, 3⟩) (meth := k11m3) (c := k11c3) (by decide +kernel) rfl rfl rfl (by decide +kernel)
set_option maxRecDepth 65536 in
theorem w_c16 : (Jvm.Cond.code ⟨"java/lang/AbstractStringBuilder", "putStringAt", "(ILjava/lang/String;)V"⟩ jdk_68_method_73_code (3 : Nat) (Option.none : Option Jvm.ClassFile.FieldType)).before args0 about1 = true := code_word (m := ⟨11, 9⟩) (meth := k11m9) (c := k11c9) (by decide +kernel) rfl rfl rfl (by decide +kernel)
set_option maxRecDepth 65536 in
theorem w_c17 : (Jvm.Cond.code ⟨"java/lang/AbstractStringBuilder", "inflateIfNeededFor", "(Ljava/lang/String;)V"⟩ jdk_68_method_71_code (2 : Nat) (Option.none : Option Jvm.ClassFile.FieldType)).before args0 about1 = true := code_word (m := ⟨11, 8⟩) (meth := k11m8) (c := k11c8) (by decide +kernel) rfl rfl rfl (by decide +kernel)
set_option maxRecDepth 65536 in
theorem w_c18 : (Jvm.Cond.code ⟨"java/lang/String", "getBytes", "([BIB)V"⟩ jdk_42_method_147_code (4 : Nat) (Option.none : Option Jvm.ClassFile.FieldType)).before args0 about1 = true := code_word (m := ⟨7, 6⟩) (meth := k7m6) (c := k7c6) (by decide +kernel) rfl rfl rfl (by decide +kernel)
set_option maxRecDepth 65536 in
theorem w_c19 : (Jvm.Cond.code ⟨"java/lang/StringBuilder", "append", "(C)Ljava/lang/StringBuilder;"⟩ jdk_67_method_14_code (2 : Nat) (Option.some (Jvm.ClassFile.FieldType.object "java/lang/StringBuilder"))).before args0 about1 = true := code_word (m := ⟨12, 2⟩) (meth := k12m2) (c := k12c2) (by decide +kernel) rfl rfl rfl (by decide +kernel)
set_option maxRecDepth 65536 in
theorem w_c20 : (Jvm.Cond.code ⟨"java/lang/AbstractStringBuilder", "append", "(C)Ljava/lang/AbstractStringBuilder;"⟩ jdk_68_method_31_code (2 : Nat) (Option.some (Jvm.ClassFile.FieldType.object "java/lang/AbstractStringBuilder"))).before args0 about1 = true := code_word (m := ⟨11, 5⟩) (meth := k11m5) (c := k11c5) (by decide +kernel) rfl rfl rfl (by decide +kernel)
set_option maxRecDepth 65536 in
theorem w_c21 : (Jvm.Cond.code ⟨"java/lang/AbstractStringBuilder", "isLatin1", "()Z"⟩ jdk_68_method_68_code (1 : Nat) (Option.some Jvm.ClassFile.FieldType.boolean)).before args0 about1 = true := code_word (m := ⟨11, 7⟩) (meth := k11m7) (c := k11c7) (by decide +kernel) rfl rfl rfl (by decide +kernel)
set_option maxRecDepth 65536 in
theorem w_c22 : (Jvm.Cond.code ⟨"java/lang/StringLatin1", "canEncode", "(C)Z"⟩ jdk_43_method_3_code (1 : Nat) (Option.some Jvm.ClassFile.FieldType.boolean)).before args0 about1 = true := code_word (m := ⟨14, 1⟩) (meth := k14m1) (c := k14c1) (by decide +kernel) rfl rfl rfl (by decide +kernel)
set_option maxRecDepth 65536 in
theorem w_c23 : (Jvm.Cond.code ⟨"com/example/colophon/colophon/api/Html", "toString", "()Ljava/lang/String;"⟩ prog_5_method_8_code (1 : Nat) (Option.some (Jvm.ClassFile.FieldType.object "java/lang/String"))).before args0 about1 = true := code_word (m := ⟨9, 3⟩) (meth := k9m3) (c := k9c3) (by decide +kernel) rfl rfl rfl (by decide +kernel)
set_option maxRecDepth 65536 in
theorem w_c24 : (Jvm.Cond.code ⟨"java/lang/StringBuilder", "toString", "()Ljava/lang/String;"⟩ jdk_67_method_42_code (1 : Nat) (Option.some (Jvm.ClassFile.FieldType.object "java/lang/String"))).before args0 about1 = true := code_word (m := ⟨12, 3⟩) (meth := k12m3) (c := k12c3) (by decide +kernel) rfl rfl rfl (by decide +kernel)
set_option maxRecDepth 65536 in
theorem w_c25 : (Jvm.Cond.code ⟨"java/lang/String", "<init>", "(Ljava/lang/StringBuilder;)V"⟩ jdk_42_method_53_code (2 : Nat) (Option.none : Option Jvm.ClassFile.FieldType)).before args0 about1 = true := code_word (m := ⟨7, 2⟩) (meth := k7m2) (c := k7c2) (by decide +kernel) rfl rfl rfl (by decide +kernel)
set_option maxRecDepth 65536 in
theorem w_c26 : (Jvm.Cond.code ⟨"java/lang/String", "<init>", "(Ljava/lang/AbstractStringBuilder;Ljava/lang/Void;)V"⟩ jdk_42_method_150_code (5 : Nat) (Option.none : Option Jvm.ClassFile.FieldType)).before args0 about1 = true := code_word (m := ⟨7, 8⟩) (meth := k7m8) (c := k7c8) (by decide +kernel) rfl rfl rfl (by decide +kernel)
set_option maxRecDepth 65536 in
theorem w_c27 : (Jvm.Cond.code ⟨"java/lang/AbstractStringBuilder", "getValue", "()[B"⟩ jdk_68_method_64_code (1 : Nat) (Option.some (Jvm.ClassFile.FieldType.array Jvm.ClassFile.FieldType.byte))).before args0 about1 = true := code_word (m := ⟨11, 6⟩) (meth := k11m6) (c := k11c6) (by decide +kernel) rfl rfl rfl (by decide +kernel)
set_option maxRecDepth 65536 in
theorem w_c28 : (Jvm.Cond.code ⟨"java/lang/StringBuilder", "length", "()I"⟩ jdk_67_method_93_code (1 : Nat) (Option.some Jvm.ClassFile.FieldType.int)).before args0 about1 = true := code_word (m := ⟨12, 4⟩) (meth := k12m4) (c := k12c4) (by decide +kernel) rfl rfl rfl (by decide +kernel)
set_option maxRecDepth 65536 in
theorem w_c29 : (Jvm.Cond.code ⟨"java/lang/AbstractStringBuilder", "length", "()I"⟩ jdk_68_method_6_code (1 : Nat) (Option.some Jvm.ClassFile.FieldType.int)).before args0 about1 = true := code_word (m := ⟨11, 2⟩) (meth := k11m2) (c := k11c2) (by decide +kernel) rfl rfl rfl (by decide +kernel)
set_option maxRecDepth 65536 in
theorem w_c30 : (Jvm.Cond.code ⟨"java/util/Arrays", "copyOfRange", "([BII)[B"⟩ jdk_65_method_132_code (3 : Nat) (Option.some (Jvm.ClassFile.FieldType.array Jvm.ClassFile.FieldType.byte))).before args0 about1 = true := code_word (m := ⟨15, 2⟩) (meth := k15m2) (c := k15c2) (by decide +kernel) rfl rfl rfl (by decide +kernel)
set_option maxRecDepth 65536 in
theorem w_c31 : (Jvm.Cond.code ⟨"java/util/Arrays", "copyOfRangeByte", "([BII)[B"⟩ jdk_65_method_133_code (5 : Nat) (Option.some (Jvm.ClassFile.FieldType.array Jvm.ClassFile.FieldType.byte))).before args0 about1 = true := code_word (m := ⟨15, 3⟩) (meth := k15m3) (c := k15c3) (by decide +kernel) rfl rfl rfl (by decide +kernel)
set_option maxRecDepth 65536 in
theorem w_c32 : (Jvm.Cond.code ⟨"java/util/Arrays", "checkLength", "(II)V"⟩ jdk_65_method_131_code (2 : Nat) (Option.none : Option Jvm.ClassFile.FieldType)).before args0 about1 = true := code_word (m := ⟨15, 1⟩) (meth := k15m1) (c := k15c1) (by decide +kernel) rfl rfl rfl (by decide +kernel)
set_option maxRecDepth 65536 in
theorem w_c33 : (Jvm.Cond.code ⟨"java/lang/Math", "min", "(II)I"⟩ jdk_29_method_69_code (2 : Nat) (Option.some Jvm.ClassFile.FieldType.int)).before args0 about1 = true := code_word (m := ⟨16, 1⟩) (meth := k16m1) (c := k16c1) (by decide +kernel) rfl rfl rfl (by decide +kernel)
set_option maxRecDepth 65536 in
theorem w_c34 : (Jvm.Cond.code ⟨"java/lang/String", "equals", "(Ljava/lang/Object;)Z"⟩ jdk_42_method_66_code (3 : Nat) (Option.some Jvm.ClassFile.FieldType.boolean)).before args0 about1 = true := code_word (m := ⟨7, 4⟩) (meth := k7m4) (c := k7c4) (by decide +kernel) rfl rfl rfl (by decide +kernel)
set_option maxRecDepth 65536 in
theorem w_c35 : (Jvm.Cond.code ⟨"java/lang/StringLatin1", "equals", "([B[B)Z"⟩ jdk_43_method_13_code (3 : Nat) (Option.some Jvm.ClassFile.FieldType.boolean)).before args0 about1 = true := code_word (m := ⟨14, 2⟩) (meth := k14m2) (c := k14c2) (by decide +kernel) rfl rfl rfl (by decide +kernel)
set_option maxRecDepth 65536 in
theorem w_c36 : (Jvm.Cond.code ⟨"java/lang/String", "valueOf", "(C)Ljava/lang/String;"⟩ jdk_42_method_139_code (1 : Nat) (Option.some (Jvm.ClassFile.FieldType.object "java/lang/String"))).before args0 about1 = true := code_word (m := ⟨7, 5⟩) (meth := k7m5) (c := k7c5) (by decide +kernel) rfl rfl rfl (by decide +kernel)
set_option maxRecDepth 65536 in
theorem w_c37 : (Jvm.Cond.code ⟨"java/lang/StringLatin1", "toBytes", "(C)[B"⟩ jdk_43_method_46_code (1 : Nat) (Option.some (Jvm.ClassFile.FieldType.array Jvm.ClassFile.FieldType.byte))).before args0 about1 = true := code_word (m := ⟨14, 3⟩) (meth := k14m3) (c := k14c3) (by decide +kernel) rfl rfl rfl (by decide +kernel)
set_option maxRecDepth 65536 in
theorem w_c38 : (Jvm.Cond.code ⟨"java/lang/String", "<init>", "([BB)V"⟩ jdk_42_method_151_code (3 : Nat) (Option.none : Option Jvm.ClassFile.FieldType)).before args0 about1 = true := code_word (m := ⟨7, 9⟩) (meth := k7m9) (c := k7c9) (by decide +kernel) rfl rfl rfl (by decide +kernel)
set_option maxRecDepth 65536 in
theorem w_c39 : (Jvm.Cond.code ⟨"com/example/colophon/colophon/api/Html", "open", "(Ljava/lang/String;[Ljava/lang/String;)Lcom/example/colophon/colophon/api/Html;"⟩ prog_5_method_2_code (4 : Nat) (Option.some (Jvm.ClassFile.FieldType.object "com/example/colophon/colophon/api/Html"))).before args0 about1 = true := code_word (m := ⟨9, 1⟩) (meth := k9m1) (c := k9c1) (by decide +kernel) rfl rfl rfl (by decide +kernel)
def codes1 : List Jvm.Cond := [Jvm.Cond.code x code maxLocals ret, Jvm.Cond.code ⟨"java/lang/String", "<init>", "([C)V"⟩ jdk_42_method_3_code (2 : Nat) (Option.none : Option Jvm.ClassFile.FieldType), Jvm.Cond.code ⟨"java/lang/String", "<init>", "([CIILjava/lang/Void;)V"⟩ jdk_42_method_149_code (6 : Nat) (Option.none : Option Jvm.ClassFile.FieldType), Jvm.Cond.code ⟨"java/lang/Object", "<init>", "()V"⟩ object_method_1_code (1 : Nat) (Option.none : Option Jvm.ClassFile.FieldType), Jvm.Cond.code ⟨"java/lang/StringUTF16", "compress", "([CII)[B"⟩ jdk_52_method_16_code (6 : Nat) (Option.some (Jvm.ClassFile.FieldType.array Jvm.ClassFile.FieldType.byte)), Jvm.Cond.code ⟨"java/lang/StringUTF16", "compress", "([CI[BII)I"⟩ jdk_52_method_21_code (7 : Nat) (Option.some Jvm.ClassFile.FieldType.int), Jvm.Cond.code ⟨"java/lang/StringUTF16", "coderFromArrayLen", "([BI)B"⟩ jdk_52_method_15_code (2 : Nat) (Option.some Jvm.ClassFile.FieldType.byte), Jvm.Cond.code ⟨"com/example/colophon/colophon/api/Html", "<init>", "()V"⟩ prog_5_method_1_code (1 : Nat) (Option.none : Option Jvm.ClassFile.FieldType), Jvm.Cond.code ⟨"java/lang/StringBuilder", "<init>", "()V"⟩ jdk_67_method_1_code (1 : Nat) (Option.none : Option Jvm.ClassFile.FieldType), Jvm.Cond.code ⟨"java/lang/AbstractStringBuilder", "<init>", "(I)V"⟩ jdk_68_method_2_code (2 : Nat) (Option.none : Option Jvm.ClassFile.FieldType), Jvm.Cond.code ⟨"com/example/colophon/colophon/api/Html", "close", "(Ljava/lang/String;)Lcom/example/colophon/colophon/api/Html;"⟩ prog_5_method_3_code (2 : Nat) (Option.some (Jvm.ClassFile.FieldType.object "com/example/colophon/colophon/api/Html")), Jvm.Cond.code ⟨"java/lang/StringBuilder", "append", "(Ljava/lang/String;)Ljava/lang/StringBuilder;"⟩ jdk_67_method_7_code (2 : Nat) (Option.some (Jvm.ClassFile.FieldType.object "java/lang/StringBuilder")), Jvm.Cond.code ⟨"java/lang/AbstractStringBuilder", "append", "(Ljava/lang/String;)Ljava/lang/AbstractStringBuilder;"⟩ jdk_68_method_22_code (3 : Nat) (Option.some (Jvm.ClassFile.FieldType.object "java/lang/AbstractStringBuilder")), Jvm.Cond.code ⟨"java/lang/String", "length", "()I"⟩ jdk_42_method_54_code (1 : Nat) (Option.some Jvm.ClassFile.FieldType.int), Jvm.Cond.code ⟨"java/lang/String", "coder", "()B"⟩ jdk_42_method_152_code (1 : Nat) (Option.some Jvm.ClassFile.FieldType.byte), Jvm.Cond.code ⟨"java/lang/AbstractStringBuilder", "ensureCapacityInternal", "(I)V"⟩ jdk_68_method_9_code (3 : Nat) (Option.none : Option Jvm.ClassFile.FieldType), Jvm.Cond.code ⟨"java/lang/AbstractStringBuilder", "putStringAt", "(ILjava/lang/String;)V"⟩ jdk_68_method_73_code (3 : Nat) (Option.none : Option Jvm.ClassFile.FieldType), Jvm.Cond.code ⟨"java/lang/AbstractStringBuilder", "inflateIfNeededFor", "(Ljava/lang/String;)V"⟩ jdk_68_method_71_code (2 : Nat) (Option.none : Option Jvm.ClassFile.FieldType), Jvm.Cond.code ⟨"java/lang/String", "getBytes", "([BIB)V"⟩ jdk_42_method_147_code (4 : Nat) (Option.none : Option Jvm.ClassFile.FieldType), Jvm.Cond.code ⟨"java/lang/StringBuilder", "append", "(C)Ljava/lang/StringBuilder;"⟩ jdk_67_method_14_code (2 : Nat) (Option.some (Jvm.ClassFile.FieldType.object "java/lang/StringBuilder")), Jvm.Cond.code ⟨"java/lang/AbstractStringBuilder", "append", "(C)Ljava/lang/AbstractStringBuilder;"⟩ jdk_68_method_31_code (2 : Nat) (Option.some (Jvm.ClassFile.FieldType.object "java/lang/AbstractStringBuilder")), Jvm.Cond.code ⟨"java/lang/AbstractStringBuilder", "isLatin1", "()Z"⟩ jdk_68_method_68_code (1 : Nat) (Option.some Jvm.ClassFile.FieldType.boolean), Jvm.Cond.code ⟨"java/lang/StringLatin1", "canEncode", "(C)Z"⟩ jdk_43_method_3_code (1 : Nat) (Option.some Jvm.ClassFile.FieldType.boolean), Jvm.Cond.code ⟨"com/example/colophon/colophon/api/Html", "toString", "()Ljava/lang/String;"⟩ prog_5_method_8_code (1 : Nat) (Option.some (Jvm.ClassFile.FieldType.object "java/lang/String")), Jvm.Cond.code ⟨"java/lang/StringBuilder", "toString", "()Ljava/lang/String;"⟩ jdk_67_method_42_code (1 : Nat) (Option.some (Jvm.ClassFile.FieldType.object "java/lang/String")), Jvm.Cond.code ⟨"java/lang/String", "<init>", "(Ljava/lang/StringBuilder;)V"⟩ jdk_42_method_53_code (2 : Nat) (Option.none : Option Jvm.ClassFile.FieldType), Jvm.Cond.code ⟨"java/lang/String", "<init>", "(Ljava/lang/AbstractStringBuilder;Ljava/lang/Void;)V"⟩ jdk_42_method_150_code (5 : Nat) (Option.none : Option Jvm.ClassFile.FieldType), Jvm.Cond.code ⟨"java/lang/AbstractStringBuilder", "getValue", "()[B"⟩ jdk_68_method_64_code (1 : Nat) (Option.some (Jvm.ClassFile.FieldType.array Jvm.ClassFile.FieldType.byte)), Jvm.Cond.code ⟨"java/lang/StringBuilder", "length", "()I"⟩ jdk_67_method_93_code (1 : Nat) (Option.some Jvm.ClassFile.FieldType.int), Jvm.Cond.code ⟨"java/lang/AbstractStringBuilder", "length", "()I"⟩ jdk_68_method_6_code (1 : Nat) (Option.some Jvm.ClassFile.FieldType.int), Jvm.Cond.code ⟨"java/util/Arrays", "copyOfRange", "([BII)[B"⟩ jdk_65_method_132_code (3 : Nat) (Option.some (Jvm.ClassFile.FieldType.array Jvm.ClassFile.FieldType.byte)), Jvm.Cond.code ⟨"java/util/Arrays", "copyOfRangeByte", "([BII)[B"⟩ jdk_65_method_133_code (5 : Nat) (Option.some (Jvm.ClassFile.FieldType.array Jvm.ClassFile.FieldType.byte)), Jvm.Cond.code ⟨"java/util/Arrays", "checkLength", "(II)V"⟩ jdk_65_method_131_code (2 : Nat) (Option.none : Option Jvm.ClassFile.FieldType), Jvm.Cond.code ⟨"java/lang/Math", "min", "(II)I"⟩ jdk_29_method_69_code (2 : Nat) (Option.some Jvm.ClassFile.FieldType.int), Jvm.Cond.code ⟨"java/lang/String", "equals", "(Ljava/lang/Object;)Z"⟩ jdk_42_method_66_code (3 : Nat) (Option.some Jvm.ClassFile.FieldType.boolean), Jvm.Cond.code ⟨"java/lang/StringLatin1", "equals", "([B[B)Z"⟩ jdk_43_method_13_code (3 : Nat) (Option.some Jvm.ClassFile.FieldType.boolean), Jvm.Cond.code ⟨"java/lang/String", "valueOf", "(C)Ljava/lang/String;"⟩ jdk_42_method_139_code (1 : Nat) (Option.some (Jvm.ClassFile.FieldType.object "java/lang/String")), Jvm.Cond.code ⟨"java/lang/StringLatin1", "toBytes", "(C)[B"⟩ jdk_43_method_46_code (1 : Nat) (Option.some (Jvm.ClassFile.FieldType.array Jvm.ClassFile.FieldType.byte)), Jvm.Cond.code ⟨"java/lang/String", "<init>", "([BB)V"⟩ jdk_42_method_151_code (3 : Nat) (Option.none : Option Jvm.ClassFile.FieldType), Jvm.Cond.code ⟨"com/example/colophon/colophon/api/Html", "open", "(Ljava/lang/String;[Ljava/lang/String;)Lcom/example/colophon/colophon/api/Html;"⟩ prog_5_method_2_code (4 : Nat) (Option.some (Jvm.ClassFile.FieldType.object "com/example/colophon/colophon/api/Html"))]
set_option maxRecDepth 65536 in
theorem codes_eq : words1.filter isCode = codes1 := rfl
theorem w_codes : ∀ c ∈ words1.filter isCode, c.before args0 about1 = true := by
  rw [codes_eq]
  intro c hc
  simp only [codes1, List.mem_cons, List.not_mem_nil, or_false] at hc
  rcases hc with rfl | rfl | rfl | rfl | rfl | rfl | rfl | rfl | rfl | rfl | rfl | rfl | rfl | rfl | rfl | rfl | rfl | rfl | rfl | rfl | rfl | rfl | rfl | rfl | rfl | rfl | rfl | rfl | rfl | rfl | rfl | rfl | rfl | rfl | rfl | rfl | rfl | rfl | rfl | rfl
  · exact w_c0
  · exact w_c1
  · exact w_c2
  · exact w_c3
  · exact w_c4
  · exact w_c5
  · exact w_c6
  · exact w_c7
  · exact w_c8
  · exact w_c9
  · exact w_c10
  · exact w_c11
  · exact w_c12
  · exact w_c13
  · exact w_c14
  · exact w_c15
  · exact w_c16
  · exact w_c17
  · exact w_c18
  · exact w_c19
  · exact w_c20
  · exact w_c21
  · exact w_c22
  · exact w_c23
  · exact w_c24
  · exact w_c25
  · exact w_c26
  · exact w_c27
  · exact w_c28
  · exact w_c29
  · exact w_c30
  · exact w_c31
  · exact w_c32
  · exact w_c33
  · exact w_c34
  · exact w_c35
  · exact w_c36
  · exact w_c37
  · exact w_c38
  · exact w_c39
set_option maxRecDepth 65536 in
theorem w_t1 : (words1.take 24).all (fun c => isCode c || c.before args0 about1) = true := by decide +kernel
set_option maxRecDepth 65536 in
theorem w_t2 : ((words1.drop 24).take 24).all (fun c => isCode c || c.before args0 about1) = true := by decide +kernel
set_option maxRecDepth 65536 in
theorem w_t3 : (((words1.drop 24).drop 24).take 24).all (fun c => isCode c || c.before args0 about1) = true := by decide +kernel
set_option maxRecDepth 65536 in
theorem w_t4 : ((((words1.drop 24).drop 24).drop 24).take 24).all (fun c => isCode c || c.before args0 about1) = true := by decide +kernel
set_option maxRecDepth 65536 in
theorem w_t5 : (((((words1.drop 24).drop 24).drop 24).drop 24).take 24).all (fun c => isCode c || c.before args0 about1) = true := by decide +kernel
set_option maxRecDepth 65536 in
theorem w_t6 : ((((((words1.drop 24).drop 24).drop 24).drop 24).drop 24).take 24).all (fun c => isCode c || c.before args0 about1) = true := by decide +kernel
set_option maxRecDepth 65536 in
theorem w_t7 : (((((((words1.drop 24).drop 24).drop 24).drop 24).drop 24).drop 24).take 24).all (fun c => isCode c || c.before args0 about1) = true := by decide +kernel
set_option maxRecDepth 65536 in
theorem w_t8 : ((((((((words1.drop 24).drop 24).drop 24).drop 24).drop 24).drop 24).drop 24).take 24).all (fun c => isCode c || c.before args0 about1) = true := by decide +kernel
set_option maxRecDepth 65536 in
theorem w_t9 : ((((((((words1.drop 24).drop 24).drop 24).drop 24).drop 24).drop 24).drop 24).drop 24).all (fun c => isCode c || c.before args0 about1) = true := by decide +kernel
theorem w_tables : (allAtoms (Jvm.Cond.code x code maxLocals ret :: tables_1)).before args0 about1 = true := by
  rw [allAtoms_all]
  show words1.all (fun c => c.before args0 about1) = true
  refine all_split ?_ w_codes
  rw [← List.take_append_drop 24 words1, List.all_append, w_t1, ← List.take_append_drop 24 (words1.drop 24), List.all_append, w_t2, ← List.take_append_drop 24 ((words1.drop 24).drop 24), List.all_append, w_t3, ← List.take_append_drop 24 (((words1.drop 24).drop 24).drop 24), List.all_append, w_t4, ← List.take_append_drop 24 ((((words1.drop 24).drop 24).drop 24).drop 24), List.all_append, w_t5, ← List.take_append_drop 24 (((((words1.drop 24).drop 24).drop 24).drop 24).drop 24), List.all_append, w_t6, ← List.take_append_drop 24 ((((((words1.drop 24).drop 24).drop 24).drop 24).drop 24).drop 24), List.all_append, w_t7, ← List.take_append_drop 24 (((((((words1.drop 24).drop 24).drop 24).drop 24).drop 24).drop 24).drop 24), List.all_append, w_t8, w_t9]
  rfl
set_option maxRecDepth 65536 in
theorem w_rest : rest_1_c.before args0 about1 = true := by decide +kernel
set_option maxRecDepth 65536 in
theorem w_case : (Jvm.Cond.and given_1 narrow_1).before args0 about1 = true := by decide +kernel
set_option maxRecDepth 65536 in
theorem w_consts : constsHeld consts_1 about1 := Jvm.Lit.constsHeldB_iff.mp (by decide +kernel)
theorem w_applies : (headSpec (Jvm.Cond.code x code maxLocals ret :: tables_1) room_1).applies x e0.platform about1 = true :=
  (Spec.applies_iff w_frames).mpr ⟨w_running, w_runnable, w_alone, w_named, w_hears, w_ripe, w_room, w_tables⟩
theorem atStart : AtStart classFile x code maxLocals ret World_1 tables_1 room_1 Calls_1 rest_1 Pre_1 launch0 p0 e0 about1 theMethod args0 below0 :=
  ⟨lists_1, trivial, launch0.admits_env _ _ _, launch0.least_env, fairChoices_fair.cas, fairChoices_fair.clock, w_frames, w_args, w_heap, w_applies, ⟨w_consts, trivial⟩, w_rest, w_case⟩
end start1
theorem witness_1 : WitnessClaimed_1 := ⟨start1.p0, start1.e0, start1.about1, start1.theMethod, start1.args0, start1.below0, start1.atStart⟩
end Jvm.Pilot.@@N@@
