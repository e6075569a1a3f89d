import JvmDerived
import JvmDerived.Pilot.@@N@@Statement
import JvmDerived.Pilot.@@N@@Code
set_option linter.unusedVariables false
set_option linter.unusedSimpArgs false
/- laws to paste: Road.backV (cut by pick.py; bodies as the Statement names them) -/
namespace Jvm.Pilot.@@N@@
namespace StrChars
open Jvm Sem ClassFile Op Lib Jvm.Stand Jvm.Free.XT Jvm.Free.ALB Jvm.Free.JM Jvm.Free
open Jvm.Lib.Cold (StaticIs)
/-- a char array whose places are chars -/
def Ch (a : Addr) (A : Cell) (U : State) : Prop := Arr .char a A U ∧ Typed .char A
theorem Ch.mv {a : Addr} {A : Cell} {U U' : State} (h : Ch a A U) (hal : U.vm.Alike U'.vm) (hh : U'.heap = U.heap) : Ch a A U' := ⟨h.1.mv hal hh, h.2⟩
theorem Ch.keep {a : Addr} {A : Cell} {U U' : State} (h : Ch a A U) (hal : U.vm.Alike U'.vm) (hk : U'.heap[a]? = some A) : Ch a A U' := ⟨h.1.keep hal hk, h.2⟩
/-- what place i of a char[]'s cell holds -/
def cv (A : Cell) (i : Nat) : Int32 := match A.slots[i]? with | some (.int x) => x | _ => 0
theorem Ch.get {a : Addr} {A : Cell} {U : State} (h : Ch a A U) {i : Nat} (hi : i < A.slots.size) : A.slots[i]? = some (.int (cv A i)) := by
  have e := Array.getElem?_eq_getElem hi
  have f := h.2 i _ e
  unfold cv; rw [e]
  generalize A.slots[i] = v at f
  cases v <;> simp [fits] at f ⊢
/-- the byte that i2b leaves of a char -/
def lo8 (x : Int32) : Int32 := x.toInt8.toInt32
theorem fits_lo8 (y : Int32) : fits .byte (.int (lo8 y)) = true := by
  have h1 := y.toInt8.le_toInt
  have h2 := y.toInt8.toInt_lt
  simp only [lo8, fits, Bool.and_eq_true, decide_eq_true_eq, Int32.le_iff_toInt_le, Int8.toInt_toInt32, show (-128 : Int32).toInt = -128 from by decide, show (127 : Int32).toInt = 127 from by decide]
  omega
/-- A' is A but that each place j of lo .. hi - 1 holds f j -/
def Laid (A A' : Cell) (lo hi : Nat) (f : Nat → Value) : Prop := A'.cls = A.cls ∧ A'.vm = A.vm ∧ A'.slots.size = A.slots.size ∧ ∀ i, A'.slots[i]? = if lo ≤ i ∧ i < hi then some (f i) else A.slots[i]?
theorem Laid.zero (A : Cell) (lo : Nat) (f : Nat → Value) : Laid A A lo (lo + 0) f := ⟨rfl, rfl, rfl, fun i => by rw [if_neg (by omega)]⟩
theorem Laid.step {A Ak : Cell} {lo k : Nat} {f : Nat → Value} {v : Value} (h : Laid A Ak lo k f) (hlo : lo ≤ k) (hk : k < Ak.slots.size) (hv : v = f k) : Laid A (Ak.setSlot k v) lo (k + 1) f := by
  refine ⟨h.1, h.2.1, by simpa [Cell.setSlot] using h.2.2.1, fun i => ?_⟩
  by_cases e : k = i
  · subst e; rw [Cell.slots_setSlot_self v hk, if_pos (by omega), hv]
  · rw [Cell.slots_setSlot_ne v e, h.2.2.2 i]
    by_cases q : lo ≤ i ∧ i < k
    · rw [if_pos q, if_pos (by omega)]
    · rw [if_neg q, if_neg (by omega)]
def U16 : String := "java/lang/StringUTF16"
namespace Cmp5
def yN : MethodName := ⟨"java/lang/StringUTF16", "compress", "([CI[BII)I"⟩
abbrev yB : ByteArray := jdk_52_method_21_code
theorem d0 : decode yB 0 = .ok (.iconst 0, 1) := by decide +kernel
theorem d1 : decode yB 1 = .ok (.istore 5, 2) := by decide +kernel
theorem d3 : decode yB 3 = .ok (.iload 5, 2) := by decide +kernel
theorem d5 : decode yB 5 = .ok (.iload 4, 2) := by decide +kernel
theorem d7 : decode yB 7 = .ok (.if_icmp (.ge) 37, 3) := by decide +kernel
theorem d10 : decode yB 10 = .ok (.aload_n 0, 1) := by decide +kernel
theorem d11 : decode yB 11 = .ok (.iload_n 1, 1) := by decide +kernel
theorem d12 : decode yB 12 = .ok (.caload, 1) := by decide +kernel
theorem d13 : decode yB 13 = .ok (.istore 6, 2) := by decide +kernel
theorem d15 : decode yB 15 = .ok (.iload 6, 2) := by decide +kernel
theorem d17 : decode yB 17 = .ok (.sipush 255, 3) := by decide +kernel
theorem d20 : decode yB 20 = .ok (.if_icmp (.le) 6, 3) := by decide +kernel
theorem d26 : decode yB 26 = .ok (.aload_n 2, 1) := by decide +kernel
theorem d27 : decode yB 27 = .ok (.iload_n 3, 1) := by decide +kernel
theorem d28 : decode yB 28 = .ok (.iload 6, 2) := by decide +kernel
theorem d30 : decode yB 30 = .ok (.i2b, 1) := by decide +kernel
theorem d31 : decode yB 31 = .ok (.bastore, 1) := by decide +kernel
theorem d32 : decode yB 32 = .ok (.iinc 1 1, 3) := by decide +kernel
theorem d35 : decode yB 35 = .ok (.iinc 3 1, 3) := by decide +kernel
theorem d38 : decode yB 38 = .ok (.iinc 5 1, 3) := by decide +kernel
theorem d41 : decode yB 41 = .ok (.goto (-38), 3) := by decide +kernel
theorem d44 : decode yB 44 = .ok (.iload 4, 2) := by decide +kernel
theorem d46 : decode yB 46 = .ok (.ireturn, 1) := by decide +kernel
def site : List Cond := []
def tab : Cond := tabOf yN yB 7 (some .int) site
def P (b : Addr) (A : Cell) (d : Addr) (B : Cell) (o q len : Nat) (args : Array Value) (s : State) : Prop := args = #[.ref b, .int (Int32.ofNat o), .ref d, .int (Int32.ofNat q), .int (Int32.ofNat len)] ∧ Ch b A s ∧ Arr .byte d B s ∧ b ≠ d ∧ o + len ≤ A.slots.size ∧ q + len ≤ B.slots.size ∧ ∀ i, i < len → ¬ 255 < cv A (o + i)
def E (b : Addr) (A : Cell) (d : Addr) (B : Cell) (o q len : Nat) (r : Option Value) (s u : State) : Prop := r = some (.int (Int32.ofNat len)) ∧ ∃ B', Put d B' s u ∧ Laid B B' q (q + len) (fun j => Value.int (lo8 (cv A (o + (j - q)))))
/-- no char of the range above 255: len; the places written hold each char's low byte -/
theorem law (l : Launch) (b : Addr) (A : Cell) (d : Addr) (B : Cell) (o q len : Nat) : Law l yN 5 5 0 0 yB 7 (some .int) site (P b A d B o q len) (E b A d B o q len) (copyLocs d q len) 0 0 := by
  refine Law.of_walk (plainFor_of_name (by decide +kernel)) (by decide +kernel) (by decide +kernel) (by decide) (fun _ _ h => by rw [h.1]; rfl) (fun _ U U' hal hh h => ⟨h.1, h.2.1.mv hal hh, h.2.2.1.mv hal hh, h.2.2.2⟩) (fun r U U' V V' h1 hal h2 h => ⟨h.1, h.2.elim fun B' q => ⟨B', q.1.mv h1 h2, q.2⟩⟩) ?_
  intro p e s m args below meth c s₁ X0 hexec hbytes hml hret hlk hnm hown hh0 W hP
  obtain ⟨rfl, hA, hB, hne, l1, l2, hp⟩ := hP
  have c1 : Steps p.tables e below (s₁.setTop (entryFrame m #[.ref b, .int (Int32.ofNat o), .ref d, .int (Int32.ofNat q), .int (Int32.ofNat len)] 7)) (s₁.setTop (mkF m 0 #[.val (.ref b), .val (.int (Int32.ofNat o)), .val (.ref d), .val (.int (Int32.ofNat q)), .val (.int (Int32.ofNat len)), .unset, .unset] [])) := entry rfl
  have hA0 := hA.1.mv X0.warmed.alike hh0
  have hB0 := hB.mv X0.warmed.alike hh0
  have a31 := hA.1.2.2.2
  have c2 : Steps p.tables e below (s₁.setTop (entryFrame m #[.ref b, .int (Int32.ofNat o), .ref d, .int (Int32.ofNat q), .int (Int32.ofNat len)] 7)) (s₁.setTop (mkF m 3 #[.val (.ref b), .val (.int (Int32.ofNat o)), .val (.ref d), .val (.int (Int32.ofNat q)), .val (.int (Int32.ofNat len)), .val (.int 0), .unset] [])) := c1.trans (by
    refine iconstV X0.here hexec rfl 0 (hb hbytes d0) (by decide) ?_
    refine XS.istore X0.here hexec rfl (hb hbytes d1) rfl rfl ?_
    exact Steps.refl _)
  have loop : ∀ (r i : Nat), i + r = len → ∀ (z : Slot), (z = .unset ∨ ∃ w, z = .val w ∧ w.category = 1) → ∀ (Tl : State) (Bk : Cell), Stand p l e { frames := 0, locals := 0, cells := 0, slots := 0 } s m #[.ref b, .int (Int32.ofNat o), .ref d, .int (Int32.ofNat q), .int (Int32.ofNat len)] below meth c Tl ([] ++ copyLocs d q i) 0 0 → Put d Bk s₁ Tl → Laid B Bk q (q + i) (fun j => Value.int (lo8 (cv A (o + (j - q))))) →
      Steps p.tables e below (s₁.setTop (entryFrame m #[.ref b, .int (Int32.ofNat o), .ref d, .int (Int32.ofNat q), .int (Int32.ofNat len)] 7)) (Tl.setTop (mkF m 3 #[.val (.ref b), .val (.int (Int32.ofNat (o + i))), .val (.ref d), .val (.int (Int32.ofNat (q + i))), .val (.int (Int32.ofNat len)), .val (.int (Int32.ofNat i)), z] [])) → ∃ (T' : State) (B' : Cell) (z' : Slot), Stand p l e { frames := 0, locals := 0, cells := 0, slots := 0 } s m #[.ref b, .int (Int32.ofNat o), .ref d, .int (Int32.ofNat q), .int (Int32.ofNat len)] below meth c T' ([] ++ copyLocs d q len) 0 0 ∧ Put d B' s₁ T' ∧ Laid B B' q (q + len) (fun j => Value.int (lo8 (cv A (o + (j - q))))) ∧
      Steps p.tables e below (s₁.setTop (entryFrame m #[.ref b, .int (Int32.ofNat o), .ref d, .int (Int32.ofNat q), .int (Int32.ofNat len)] 7)) (T'.setTop (mkF m 3 #[.val (.ref b), .val (.int (Int32.ofNat (o + len))), .val (.ref d), .val (.int (Int32.ofNat (q + len))), .val (.int (Int32.ofNat len)), .val (.int (Int32.ofNat len)), z'] [])) := by
    intro r
    induction r with
    | zero =>
      intro i hi z hz Tl Bk Xl pl fl cl
      have hil : i = len := by omega
      rw [hil] at Xl fl cl
      exact ⟨Tl, Bk, z, Xl, pl, fl, cl⟩
    | succ r ih =>
      intro i hi z hz Tl Bk Xl pl fl cl
      have all := X0.warmed.alike.symm.trans Xl.warmed.alike
      have hAl := hA0.keep all (pl.other hne hA0.1)
      have hBk := hB0.like all pl.1 fl.1 fl.2.1 fl.2.2.1
      have hlt : q + i < Bk.slots.size := by rw [fl.2.2.1]; omega
      have c3 : Steps p.tables e below (s₁.setTop (entryFrame m #[.ref b, .int (Int32.ofNat o), .ref d, .int (Int32.ofNat q), .int (Int32.ofNat len)] 7)) (Tl.setTop (mkF m 12 #[.val (.ref b), .val (.int (Int32.ofNat (o + i))), .val (.ref d), .val (.int (Int32.ofNat (q + i))), .val (.int (Int32.ofNat len)), .val (.int (Int32.ofNat i)), z] [.int (Int32.ofNat (o + i)), .ref b])) := cl.trans (by
        refine XS.iload Xl.here hexec rfl (hb hbytes d3) rfl ?_
        refine XS.iload Xl.here hexec rfl (hb hbytes d5) rfl ?_
        refine XS.icmpNo Xl.here hexec rfl (hb hbytes d7) rfl (ii_ge_f (lt32 (by omega) (by omega))) ?_
        refine XS.aloadN Xl.here hexec rfl (hb hbytes d10) rfl rfl ?_
        refine XS.iloadN Xl.here hexec rfl (hb hbytes d11) rfl ?_
        exact Steps.refl _)
      have c4 : Steps p.tables e below (s₁.setTop (entryFrame m #[.ref b, .int (Int32.ofNat o), .ref d, .int (Int32.ofNat q), .int (Int32.ofNat len)] 7)) (Tl.setTop (mkF m 13 #[.val (.ref b), .val (.int (Int32.ofNat (o + i))), .val (.ref d), .val (.int (Int32.ofNat (q + i))), .val (.int (Int32.ofNat len)), .val (.int (Int32.ofNat i)), z] [.int (cv A (o + i))])) := c3.trans (by
        refine Xl.aget hexec hAl rfl (hA.get (i := o + i) (by omega)) rfl rfl (hb hbytes d12) ?_
        exact Steps.refl _)
      have c5 : Steps p.tables e below (s₁.setTop (entryFrame m #[.ref b, .int (Int32.ofNat o), .ref d, .int (Int32.ofNat q), .int (Int32.ofNat len)] 7)) (Tl.setTop (mkF m 15 #[.val (.ref b), .val (.int (Int32.ofNat (o + i))), .val (.ref d), .val (.int (Int32.ofNat (q + i))), .val (.int (Int32.ofNat len)), .val (.int (Int32.ofNat i)), .val (.int (cv A (o + i)))] [])) := c4.trans (by
        refine XS.istoreS Xl.here hexec rfl (hb hbytes d13) rfl rfl hz ?_
        exact Steps.refl _)
      have c6 : Steps p.tables e below (s₁.setTop (entryFrame m #[.ref b, .int (Int32.ofNat o), .ref d, .int (Int32.ofNat q), .int (Int32.ofNat len)] 7)) (Tl.setTop (mkF m 31 #[.val (.ref b), .val (.int (Int32.ofNat (o + i))), .val (.ref d), .val (.int (Int32.ofNat (q + i))), .val (.int (Int32.ofNat len)), .val (.int (Int32.ofNat i)), .val (.int (cv A (o + i)))] [.int (lo8 (cv A (o + i))), .int (Int32.ofNat (q + i)), .ref d])) := c5.trans (by
        refine XS.iload Xl.here hexec rfl (hb hbytes d15) rfl ?_
        refine sipushV Xl.here hexec rfl 255 (hb hbytes d17) (by decide) ?_
        refine XS.icmpYes Xl.here hexec rfl (pc0 := 20) rfl (hb hbytes d20) rfl (ii_le_t (hp i (by omega))) (by decide) rfl ?_
        refine XS.aloadN Xl.here hexec rfl (hb hbytes d26) rfl rfl ?_
        refine XS.iloadN Xl.here hexec rfl (hb hbytes d27) rfl ?_
        refine XS.iload Xl.here hexec rfl (hb hbytes d28) rfl ?_
        refine i2b Xl.here hexec rfl (hb hbytes d30) rfl ?_
        exact Steps.refl _)
      obtain ⟨T7, X7, p7, st7⟩ := Xl.aput hexec hBk rfl hlt rfl (fits_lo8 (cv A (o + i))) (g := (mkF m 31 #[.val (.ref b), .val (.int (Int32.ofNat (o + i))), .val (.ref d), .val (.int (Int32.ofNat (q + i))), .val (.int (Int32.ofNat len)), .val (.int (Int32.ofNat i)), .val (.int (cv A (o + i)))] [.int (lo8 (cv A (o + i))), .int (Int32.ofNat (q + i)), .ref d])) rfl (rest := []) rfl (hb hbytes d31)
      have c8 : Steps p.tables e below (s₁.setTop (entryFrame m #[.ref b, .int (Int32.ofNat o), .ref d, .int (Int32.ofNat q), .int (Int32.ofNat len)] 7)) (T7.setTop (mkF m 32 #[.val (.ref b), .val (.int (Int32.ofNat (o + i))), .val (.ref d), .val (.int (Int32.ofNat (q + i))), .val (.int (Int32.ofNat len)), .val (.int (Int32.ofNat i)), .val (.int (cv A (o + i)))] [])) := c6.trans (st7 _ (Steps.refl _))
      have c9 : Steps p.tables e below (s₁.setTop (entryFrame m #[.ref b, .int (Int32.ofNat o), .ref d, .int (Int32.ofNat q), .int (Int32.ofNat len)] 7)) (T7.setTop (mkF m 3 #[.val (.ref b), .val (.int (Int32.ofNat (o + i) + 1)), .val (.ref d), .val (.int (Int32.ofNat (q + i) + 1)), .val (.int (Int32.ofNat len)), .val (.int (Int32.ofNat i + 1)), .val (.int (cv A (o + i)))] [])) := c8.trans (by
        refine iincV X7.here hexec rfl 1 (hb hbytes d32) (by decide) rfl rfl ?_
        refine iincV X7.here hexec rfl 1 (hb hbytes d35) (by decide) rfl rfl ?_
        refine iincV X7.here hexec rfl 1 (hb hbytes d38) (by decide) rfl rfl ?_
        refine XS.goto X7.here hexec rfl (pc0 := 41) rfl (hb hbytes d41) (by decide) rfl ?_
        exact Steps.refl _)
      have c10 : Steps p.tables e below (s₁.setTop (entryFrame m #[.ref b, .int (Int32.ofNat o), .ref d, .int (Int32.ofNat q), .int (Int32.ofNat len)] 7)) (T7.setTop (mkF m 3 #[.val (.ref b), .val (.int (Int32.ofNat (o + (i + 1)))), .val (.ref d), .val (.int (Int32.ofNat (q + (i + 1)))), .val (.int (Int32.ofNat len)), .val (.int (Int32.ofNat (i + 1))), .val (.int (cv A (o + i)))] [])) := by
        have := c9
        rw [succ32, succ32, succ32] at this
        exact this
      exact ih (i + 1) (by omega) _ (Or.inr ⟨_, rfl, rfl⟩) T7 _ (by rw [copyLocs_step, ← List.append_assoc]; exact X7) (pl.trans p7) (fl.step (by omega) hlt (by simp)) c10
  obtain ⟨T9, B9, z9, X9, p9, f9, g9⟩ := loop len 0 (by omega) .unset (Or.inl rfl) s₁ B (by simpa [copyLocs] using X0) ⟨hB0.1, fun _ _ => rfl, rfl⟩ (Laid.zero _ _ _) c2
  have c11 : Steps p.tables e below (s₁.setTop (entryFrame m #[.ref b, .int (Int32.ofNat o), .ref d, .int (Int32.ofNat q), .int (Int32.ofNat len)] 7)) (T9.setTop (mkF m 46 #[.val (.ref b), .val (.int (Int32.ofNat (o + len))), .val (.ref d), .val (.int (Int32.ofNat (q + len))), .val (.int (Int32.ofNat len)), .val (.int (Int32.ofNat len)), z9] [.int (Int32.ofNat len)])) := g9.trans (by
    refine XS.iload X9.here hexec rfl (hb hbytes d3) rfl ?_
    refine XS.iload X9.here hexec rfl (hb hbytes d5) rfl ?_
    refine XS.icmpYes X9.here hexec rfl (pc0 := 7) rfl (hb hbytes d7) rfl (ii_ge_t (nlt32 (by omega) (Nat.le_refl _))) (by decide) rfl ?_
    refine XS.iload X9.here hexec rfl (hb hbytes d44) rfl ?_
    exact Steps.refl _)
  exact ⟨T9, some (.int (Int32.ofNat len)), _, _, _, X9, by simp, rfl, rfl, (fun h => by cases h), ⟨rfl, B9, p9.from hh0, f9⟩, fun fs hl => c11.trans (X9.ireturnOut hexec hret rfl (Or.inl rfl) (hb hbytes d46) hl)⟩
end Cmp5
namespace Cmp3
def yN : MethodName := ⟨"java/lang/StringUTF16", "compress", "([CII)[B"⟩
abbrev yB : ByteArray := jdk_52_method_16_code
theorem d0 : decode yB 0 = .ok (.iload_n 2, 1) := by decide +kernel
theorem d1 : decode yB 1 = .ok (.newarray .byte, 2) := by decide +kernel
theorem d3 : decode yB 3 = .ok (.astore_n 3, 1) := by decide +kernel
theorem d4 : decode yB 4 = .ok (.aload_n 0, 1) := by decide +kernel
theorem d5 : decode yB 5 = .ok (.iload_n 1, 1) := by decide +kernel
theorem d6 : decode yB 6 = .ok (.aload_n 3, 1) := by decide +kernel
theorem d7 : decode yB 7 = .ok (.iconst 0, 1) := by decide +kernel
theorem d8 : decode yB 8 = .ok (.iload_n 2, 1) := by decide +kernel
theorem d9 : decode yB 9 = .ok (.invokestatic 115, 3) := by decide +kernel
theorem d12 : decode yB 12 = .ok (.istore 4, 2) := by decide +kernel
theorem d14 : decode yB 14 = .ok (.iload 4, 2) := by decide +kernel
theorem d16 : decode yB 16 = .ok (.iload_n 2, 1) := by decide +kernel
theorem d17 : decode yB 17 = .ok (.if_icmp (.eq) 40, 3) := by decide +kernel
theorem d57 : decode yB 57 = .ok (.aload_n 3, 1) := by decide +kernel
theorem d58 : decode yB 58 = .ok (.areturn, 1) := by decide +kernel
def site : List Cond := [.arrayClass .byte, Cmp5.tab] ++ staticW U16 115 Cmp5.yN
def tab : Cond := tabOf yN yB 6 (some (.array .byte)) site
def P (b : Addr) (A : Cell) (o len : Nat) (args : Array Value) (s : State) : Prop := args = #[.ref b, .int (Int32.ofNat o), .int (Int32.ofNat len)] ∧ Ch b A s ∧ o + len ≤ A.slots.size ∧ len ≤ 536870912 ∧ ∀ i, i < len → ¬ 255 < cv A (o + i)
def E (b : Addr) (A : Cell) (o len : Nat) (r : Option Value) (s u : State) : Prop := NewArr .byte "[B" len (fun j => .int (lo8 (cv A (o + j)))) r s u ∧ u.heap.size = s.heap.size + 1
/-- no char of the range above 255: a new byte[] of their low bytes -/
theorem law (l : Launch) (b : Addr) (A : Cell) (o len : Nat) : Law l yN 3 3 1 18 yB 6 (some (.array .byte)) site (P b A o len) (E b A o len) [] 1 len := by
  refine Law.of_walk (plainFor_of_name (by decide +kernel)) (by decide +kernel) (by decide +kernel) (by decide) (fun _ _ h => by rw [h.1]; rfl) (fun _ U U' hal hh h => ⟨h.1, h.2.1.mv hal hh, h.2.2⟩) (fun r U U' V V' h1 hal h2 h => ⟨NewArr.mv r U U' V V' h1 hal h2 h.1, by rw [h1, h2]; exact h.2⟩) ?_
  intro p e s m args below meth c s₁ X0 hexec hbytes hml hret hlk hnm hown hh0 W hP
  obtain ⟨rfl, hA, l1, l2, hp⟩ := hP
  have a31 := hA.1.2.2.2
  have c1 : Steps p.tables e below (s₁.setTop (entryFrame m #[.ref b, .int (Int32.ofNat o), .int (Int32.ofNat len)] 6)) (s₁.setTop (mkF m 0 #[.val (.ref b), .val (.int (Int32.ofNat o)), .val (.int (Int32.ofNat len)), .unset, .unset, .unset] [])) := entry rfl
  have c2 : Steps p.tables e below (s₁.setTop (entryFrame m #[.ref b, .int (Int32.ofNat o), .int (Int32.ofNat len)] 6)) (s₁.setTop (mkF m 1 #[.val (.ref b), .val (.int (Int32.ofNat o)), .val (.int (Int32.ofNat len)), .unset, .unset, .unset] [.int (Int32.ofNat len)])) := c1.trans (by
    refine XS.iloadN X0.here hexec rfl (hb hbytes d0) rfl ?_
    exact Steps.refl _)
  obtain ⟨T3, B3, X3, ba3, bs3, bv3, bh3, bf3, st3⟩ := X0.anew hexec (atype := .byte) (wk W (.arrayClass .byte)) rfl (by show len * 1 ≤ _; omega) (by omega) (g := (mkF m 1 #[.val (.ref b), .val (.int (Int32.ofNat o)), .val (.int (Int32.ofNat len)), .unset, .unset, .unset] [.int (Int32.ofNat len)])) rfl (hb hbytes d1) (rest := []) rfl (Nat.le_refl _) (by show 0 + len ≤ len; omega)
  rw [hh0] at ba3 st3
  have kp3 : XT.Kept s T3 := (XT.Kept.of_eq hh0).push bh3
  have hA3 := hA.keep X3.warmed.alike (kp3 _ _ hA.1.1)
  have hne : b ≠ s.heap.size := hA.1.ne
  have c4 : Steps p.tables e below (s₁.setTop (entryFrame m #[.ref b, .int (Int32.ofNat o), .int (Int32.ofNat len)] 6)) (T3.setTop (mkF m 3 #[.val (.ref b), .val (.int (Int32.ofNat o)), .val (.int (Int32.ofNat len)), .unset, .unset, .unset] [.ref s.heap.size])) := c2.trans (st3 _ (Steps.refl _))
  have c5 : Steps p.tables e below (s₁.setTop (entryFrame m #[.ref b, .int (Int32.ofNat o), .int (Int32.ofNat len)] 6)) (T3.setTop (mkF m 9 #[.val (.ref b), .val (.int (Int32.ofNat o)), .val (.int (Int32.ofNat len)), .val (.ref s.heap.size), .unset, .unset] [.int (Int32.ofNat len), .int 0, .ref s.heap.size, .int (Int32.ofNat o), .ref b])) := c4.trans (by
    refine XS.astoreN X3.here hexec rfl (hb hbytes d3) rfl rfl rfl ?_
    refine XS.aloadN X3.here hexec rfl (hb hbytes d4) rfl rfl ?_
    refine XS.iloadN X3.here hexec rfl (hb hbytes d5) rfl ?_
    refine XS.aloadN X3.here hexec rfl (hb hbytes d6) rfl rfl ?_
    refine iconstV X3.here hexec rfl 0 (hb hbytes d7) (by decide) ?_
    refine XS.iloadN X3.here hexec rfl (hb hbytes d8) rfl ?_
    exact Steps.refl _)
  obtain ⟨v6, T6, X6, E6, g6⟩ := X3.callS hexec (Cmp5.law l b A s.heap.size B3 o 0 len) hown (wks W (staticW U16 115 Cmp5.yN)) (wk W Cmp5.tab) (W := 0) (Nat.le_of_ble_eq_true rfl) (Nat.le_of_ble_eq_true rfl) (Nat.le_refl _) (by show 0 + len + 0 ≤ len; omega) (g := (mkF m 9 #[.val (.ref b), .val (.int (Int32.ofNat o)), .val (.int (Int32.ofNat len)), .val (.ref s.heap.size), .unset, .unset] [.int (Int32.ofNat len), .int (Int32.ofNat 0), .ref s.heap.size, .int (Int32.ofNat o), .ref b])) rfl (by rw [hml]; rfl) c5 (argsL := [.ref b, .int (Int32.ofNat o), .ref s.heap.size, .int (Int32.ofNat 0), .int (Int32.ofNat len)]) (rest := []) rfl rfl (by show 2 * 0 + 0 ≤ _; decide) (hb hbytes d9) (⟨rfl, hA3, ba3, hne, l1, by rw [bs3]; simp, hp⟩)
  obtain ⟨rfl, B6, p6, f6⟩ := E6
  have c7 : Steps p.tables e below (s₁.setTop (entryFrame m #[.ref b, .int (Int32.ofNat o), .int (Int32.ofNat len)] 6)) (T6.setTop (mkF m 12 #[.val (.ref b), .val (.int (Int32.ofNat o)), .val (.int (Int32.ofNat len)), .val (.ref s.heap.size), .unset, .unset] [.int (Int32.ofNat len)])) := g6
  have c8 : Steps p.tables e below (s₁.setTop (entryFrame m #[.ref b, .int (Int32.ofNat o), .int (Int32.ofNat len)] 6)) (T6.setTop (mkF m 58 #[.val (.ref b), .val (.int (Int32.ofNat o)), .val (.int (Int32.ofNat len)), .val (.ref s.heap.size), .val (.int (Int32.ofNat len)), .unset] [.ref s.heap.size])) := c7.trans (by
    refine XS.istore X6.here hexec rfl (hb hbytes d12) rfl rfl ?_
    refine XS.iload X6.here hexec rfl (hb hbytes d14) rfl ?_
    refine XS.iloadN X6.here hexec rfl (hb hbytes d16) rfl ?_
    refine XS.icmpYes X6.here hexec rfl (pc0 := 17) rfl (hb hbytes d17) rfl (ii_eq_t rfl) (by decide) rfl ?_
    refine XS.aloadN X6.here hexec rfl (hb hbytes d57) rfl rfl ?_
    exact Steps.refl _)
  have X8 := X6.wide (L' := []) (cells' := 1) (slots' := len) (fun x hx hlt => by
    simp only [List.nil_append, copyLocs, List.mem_map, List.mem_range] at hx
    obtain ⟨i, -, rfl⟩ := hx
    exact absurd hlt (Nat.lt_irrefl _)) (Nat.le_refl _) (by omega)
  exact ⟨T6, some (.ref s.heap.size), _, _, _, X8, rfl, rfl, rfl, (fun h => by cases h), ⟨⟨rfl, B6, ba3.like (X3.warmed.alike.symm.trans X6.warmed.alike) p6.1 f6.1 f6.2.1 f6.2.2.1, f6.2.1.trans bv3, by rw [X6.warmed.alike.findClass, f6.1]; exact bf3, by rw [f6.2.2.1, bs3]; simp, fun j hj => by rw [f6.2.2.2 j, if_pos (by omega)]; rfl, kp3.put p6 (Nat.le_refl _)⟩, by rw [p6.2.2, bh3, hh0]; simp⟩, fun fs hl => c8.trans (X8.areturnOut hexec rfl hret rfl (hb hbytes d58) hl)⟩
end Cmp3
namespace CodL
def yN : MethodName := ⟨"java/lang/StringUTF16", "coderFromArrayLen", "([BI)B"⟩
abbrev yB : ByteArray := jdk_52_method_15_code
theorem d0 : decode yB 0 = .ok (.iload_n 1, 1) := by decide +kernel
theorem d1 : decode yB 1 = .ok (.aload_n 0, 1) := by decide +kernel
theorem d2 : decode yB 2 = .ok (.arraylength, 1) := by decide +kernel
theorem d3 : decode yB 3 = .ok (.isub, 1) := by decide +kernel
theorem d4 : decode yB 4 = .ok (.bipush 31, 2) := by decide +kernel
theorem d6 : decode yB 6 = .ok (.iushr, 1) := by decide +kernel
theorem d7 : decode yB 7 = .ok (.i2b, 1) := by decide +kernel
theorem d8 : decode yB 8 = .ok (.ireturn, 1) := by decide +kernel
def site : List Cond := []
def tab : Cond := tabOf yN yB 2 (some .byte) site
def P (d : Addr) (B : Cell) (args : Array Value) (s : State) : Prop := args = #[.ref d, .int (Int32.ofNat B.slots.size)] ∧ Arr .byte d B s
def E (r : Option Value) (s u : State) : Prop := XT.PureE (some (.int 0)) r s u
/-- an array as long as the number of chars: LATIN1 -/
theorem law (l : Launch) (d : Addr) (B : Cell) : Law l yN 2 2 0 0 yB 2 (some .byte) site (P d B) E [] 0 0 := by
  refine Law.of_walk (plainFor_of_name (by decide +kernel)) (by decide +kernel) (by decide +kernel) (by decide) (fun _ _ h => by rw [h.1]; rfl) (fun _ U U' hal hh h => ⟨h.1, h.2.mv hal hh⟩) (fun r U U' V V' h1 hal h2 h => XT.PureE.mv r U U' V V' h1 hal h2 h) ?_
  intro p e s m args below meth c s₁ X0 hexec hbytes hml hret hlk hnm hown hh0 W hP
  obtain ⟨rfl, hB⟩ := hP
  have hB0 := hB.mv X0.warmed.alike hh0
  have c1 : Steps p.tables e below (s₁.setTop (entryFrame m #[.ref d, .int (Int32.ofNat B.slots.size)] 2)) (s₁.setTop (mkF m 0 #[.val (.ref d), .val (.int (Int32.ofNat B.slots.size))] [])) := entry rfl
  have c2 : Steps p.tables e below (s₁.setTop (entryFrame m #[.ref d, .int (Int32.ofNat B.slots.size)] 2)) (s₁.setTop (mkF m 2 #[.val (.ref d), .val (.int (Int32.ofNat B.slots.size))] [.ref d, .int (Int32.ofNat B.slots.size)])) := c1.trans (by
    refine XS.iloadN X0.here hexec rfl (hb hbytes d0) rfl ?_
    refine XS.aloadN X0.here hexec rfl (hb hbytes d1) rfl rfl ?_
    exact Steps.refl _)
  have c3 : Steps p.tables e below (s₁.setTop (entryFrame m #[.ref d, .int (Int32.ofNat B.slots.size)] 2)) (s₁.setTop (mkF m 8 #[.val (.ref d), .val (.int (Int32.ofNat B.slots.size))] [.int (lo8 (ushr (Int32.ofNat B.slots.size - Int32.ofNat B.slots.size) 31))])) := c2.trans (by
    refine X0.alen hexec hB0 rfl rfl (hb hbytes d2) ?_
    refine XS.isub X0.here hexec rfl (hb hbytes d3) rfl ?_
    refine bipushV X0.here hexec rfl 31 (hb hbytes d4) (by decide) ?_
    refine iushr X0.here hexec rfl (hb hbytes d6) rfl ?_
    refine i2b X0.here hexec rfl (hb hbytes d7) rfl ?_
    exact Steps.refl _)
  have e0 : lo8 (ushr (Int32.ofNat B.slots.size - Int32.ofNat B.slots.size) 31) = 0 := by rw [Int32.sub_self]; decide
  rw [e0] at c3
  exact ⟨s₁, some (.int 0), _, _, _, X0, rfl, rfl, rfl, (fun h => by cases h), ⟨rfl, hh0⟩, fun fs hl => c3.trans (X0.ireturnOut hexec hret rfl (Or.inr (Or.inr (Or.inl rfl))) (hb hbytes d8) hl)⟩
end CodL
/-- the String at a is Latin-1 over a new byte[] (the heap's one new cell): the low bytes of the len chars of A from o on; every cell but a is kept -/
def Got (a : Addr) (D : Cell) (fV fC : Field) (A : Cell) (o len : Nat) (r : Option Value) (s u : State) : Prop := r = none ∧ ∃ D' V : Cell, Blank "java/lang/String" a D' u ∧ Same D D' [fV.slot, fC.slot] ∧ D'.slots[fV.slot]? = some (.ref s.heap.size) ∧ D'.slots[fC.slot]? = some (.int 0) ∧ Arr .byte s.heap.size V u ∧ V.vm = .none ∧ u.vm.findClass "[B" = some V.cls ∧ V.slots.size = len ∧ (∀ j, j < len → V.slots[j]? = some (.int (lo8 (cv A (o + j))))) ∧ (∀ (y : Addr) (c : Cell), y ≠ a → s.heap[y]? = some c → u.heap[y]? = some c) ∧ u.heap.size = s.heap.size + 1
theorem Got.mv {a : Addr} {D A : Cell} {fV fC : Field} {o len : Nat} : ∀ r (U U' V V' : State), U'.heap = U.heap → V.vm.Alike V'.vm → V'.heap = V.heap → Got a D fV fC A o len r U V → Got a D fV fC A o len r U' V' :=
  fun r U U' V V' h1 hal h2 ⟨e0, D', X, a1, a2, a3, a4, a5, a6, a7, a8, a9, a10, a11⟩ => ⟨e0, D', X, a1.mv hal h2, a2, by rw [h1]; exact a3, a4, by rw [h1]; exact a5.mv hal h2, a6, by rw [hal.findClass]; exact a7, a8, a9, by rw [h1, h2]; exact a10, by rw [h1, h2]; exact a11⟩
namespace New4
def yN : MethodName := ⟨"java/lang/String", "<init>", "([CIILjava/lang/Void;)V"⟩
abbrev yB : ByteArray := jdk_42_method_149_code
theorem d0 : decode yB 0 = .ok (.aload_n 0, 1) := by decide +kernel
theorem d1 : decode yB 1 = .ok (.invokespecial 1, 3) := by decide +kernel
theorem d4 : decode yB 4 = .ok (.iload_n 3, 1) := by decide +kernel
theorem d5 : decode yB 5 = .ok (.ifCond (.ne) 22, 3) := by decide +kernel
theorem d27 : decode yB 27 = .ok (.getstatic 38, 3) := by decide +kernel
theorem d30 : decode yB 30 = .ok (.ifCond (.eq) 28, 3) := by decide +kernel
theorem d33 : decode yB 33 = .ok (.aload_n 1, 1) := by decide +kernel
theorem d34 : decode yB 34 = .ok (.iload_n 2, 1) := by decide +kernel
theorem d35 : decode yB 35 = .ok (.iload_n 3, 1) := by decide +kernel
theorem d36 : decode yB 36 = .ok (.invokestatic 177, 3) := by decide +kernel
theorem d39 : decode yB 39 = .ok (.astore 5, 2) := by decide +kernel
theorem d41 : decode yB 41 = .ok (.aload_n 0, 1) := by decide +kernel
theorem d42 : decode yB 42 = .ok (.aload 5, 2) := by decide +kernel
theorem d44 : decode yB 44 = .ok (.iload_n 3, 1) := by decide +kernel
theorem d45 : decode yB 45 = .ok (.invokestatic 47, 3) := by decide +kernel
theorem d48 : decode yB 48 = .ok (.putfield 15, 3) := by decide +kernel
theorem d51 : decode yB 51 = .ok (.aload_n 0, 1) := by decide +kernel
theorem d52 : decode yB 52 = .ok (.aload 5, 2) := by decide +kernel
theorem d54 : decode yB 54 = .ok (.putfield 9, 3) := by decide +kernel
theorem d57 : decode yB 57 = .ok (.return_, 1) := by decide +kernel
def site : List Cond := [.fieldLink "java/lang/String" 38 "java/lang/String" "COMPACT_STRINGS" "Z", Cmp3.tab, CodL.tab, .laysFinal "java/lang/String" "java/lang/String" "value" "[B", .fieldLink "java/lang/String" 9 "java/lang/String" "value" "[B", .laysFinal "java/lang/String" "java/lang/String" "coder" "B", .fieldLink "java/lang/String" 15 "java/lang/String" "coder" "B"] ++ objW "java/lang/String" 1 ++ staticW "java/lang/String" 177 Cmp3.yN ++ staticW "java/lang/String" 47 CodL.yN
def tab : Cond := tabOf yN yB 6 none site
def P (a : Addr) (D : Cell) (fV fC : Field) (b : Addr) (A : Cell) (z : Int32) (o len : Nat) (args : Array Value) (s : State) : Prop := args = #[.ref a, .ref b, .int (Int32.ofNat o), .int (Int32.ofNat len), .null] ∧ Blank "java/lang/String" a D s ∧ Found "java/lang/String" "value" "[B" fV s ∧ Found "java/lang/String" "coder" "B" fC s ∧ Ch b A s ∧ StaticIs s "java/lang/String" "COMPACT_STRINGS" "Z" (.int z) ∧ ¬ z = 0 ∧ 0 < len ∧ o + len ≤ A.slots.size ∧ len ≤ 536870912 ∧ ∀ i, i < len → ¬ 255 < cv A (o + i)
def E (a : Addr) (D : Cell) (fV fC : Field) (A : Cell) (o len : Nat) (r : Option Value) (s u : State) : Prop := Got a D fV fC A o len r s u
/-- len > 0, no char of the range above 255: a Latin-1 String of their low bytes -/
theorem law (l : Launch) (a : Addr) (D : Cell) (fV fC : Field) (b : Addr) (A : Cell) (z : Int32) (o len : Nat) : Law l yN 5 4 2 35 yB 6 none site (P a D fV fC b A z o len) (E a D fV fC A o len) [⟨a, fC.slot⟩, ⟨a, fV.slot⟩] 1 len := by
  refine Law.of_walk (plainFor_of_name (by decide +kernel)) (by decide +kernel) (by decide +kernel) (by decide) (fun _ _ h => by rw [h.1]; rfl) (fun _ U U' hal hh h => ⟨h.1, h.2.1.mv hal hh, h.2.2.1.al hal, h.2.2.2.1.al hal, h.2.2.2.2.1.mv hal hh, h.2.2.2.2.2.1.there hal hh, h.2.2.2.2.2.2⟩) (fun r U U' V V' h1 hal h2 h => Got.mv r U U' V V' h1 hal h2 h) ?_
  intro p e s m args below meth c s₁ X0 hexec hbytes hml hret hlk hnm hown hh0 W hP
  obtain ⟨rfl, hB, f1, f2, hA, s1, hz, l0, l1, l2, hp⟩ := hP
  have a31 := hA.1.2.2.2
  have c1 : Steps p.tables e below (s₁.setTop (entryFrame m #[.ref a, .ref b, .int (Int32.ofNat o), .int (Int32.ofNat len), .null] 6)) (s₁.setTop (mkF m 0 #[.val (.ref a), .val (.ref b), .val (.int (Int32.ofNat o)), .val (.int (Int32.ofNat len)), .val .null, .unset] [])) := entry rfl
  have c2 : Steps p.tables e below (s₁.setTop (entryFrame m #[.ref a, .ref b, .int (Int32.ofNat o), .int (Int32.ofNat len), .null] 6)) (s₁.setTop (mkF m 1 #[.val (.ref a), .val (.ref b), .val (.int (Int32.ofNat o)), .val (.int (Int32.ofNat len)), .val .null, .unset] [.ref a])) := c1.trans (by
    refine XS.aloadN X0.here hexec rfl (hb hbytes d0) rfl rfl ?_
    exact Steps.refl _)
  obtain ⟨T3, X3, q3, st3⟩ := X0.oinit hexec hown (wks W (objW "java/lang/String" 1)) (g := (mkF m 1 #[.val (.ref a), .val (.ref b), .val (.int (Int32.ofNat o)), .val (.int (Int32.ofNat len)), .val .null, .unset] [.ref a])) rfl (by rw [hml]; rfl) (rest := []) rfl (hb hbytes d1) (W := 0) (by show 2 * 0 + 0 ≤ _; decide) (Nat.le_of_ble_eq_true rfl) (Nat.le_of_ble_eq_true rfl)
  have hh3 := q3.trans hh0
  have c4 : Steps p.tables e below (s₁.setTop (entryFrame m #[.ref a, .ref b, .int (Int32.ofNat o), .int (Int32.ofNat len), .null] 6)) (T3.setTop (mkF m 27 #[.val (.ref a), .val (.ref b), .val (.int (Int32.ofNat o)), .val (.int (Int32.ofNat len)), .val .null, .unset] [])) := (c2.trans (st3 _ (Steps.refl _))).trans (by
    refine XS.iloadN X3.here hexec rfl (hb hbytes d4) rfl ?_
    refine XS.ifYes X3.here hexec rfl (pc0 := 5) rfl (hb hbytes d5) rfl (i0_ne_t (nz32 (by omega) l0)) (by decide) rfl ?_
    exact Steps.refl _)
  obtain ⟨T5, X5, q5, st5⟩ := X3.sget hexec hown (wk W (.fieldLink "java/lang/String" 38 "java/lang/String" "COMPACT_STRINGS" "Z")) s1 (fun _ _ h => by rw [hh3]; exact h) (g := (mkF m 27 #[.val (.ref a), .val (.ref b), .val (.int (Int32.ofNat o)), .val (.int (Int32.ofNat len)), .val .null, .unset] [])) rfl (hb hbytes d27)
  have hh5 := q5.trans hh3
  have c6 : Steps p.tables e below (s₁.setTop (entryFrame m #[.ref a, .ref b, .int (Int32.ofNat o), .int (Int32.ofNat len), .null] 6)) (T5.setTop (mkF m 30 #[.val (.ref a), .val (.ref b), .val (.int (Int32.ofNat o)), .val (.int (Int32.ofNat len)), .val .null, .unset] [.int z])) := c4.trans (st5 _ (Steps.refl _))
  have c7 : Steps p.tables e below (s₁.setTop (entryFrame m #[.ref a, .ref b, .int (Int32.ofNat o), .int (Int32.ofNat len), .null] 6)) (T5.setTop (mkF m 36 #[.val (.ref a), .val (.ref b), .val (.int (Int32.ofNat o)), .val (.int (Int32.ofNat len)), .val .null, .unset] [.int (Int32.ofNat len), .int (Int32.ofNat o), .ref b])) := c6.trans (by
    refine XS.ifNo X5.here hexec rfl (hb hbytes d30) rfl (i0_eq_f hz) ?_
    refine XS.aloadN X5.here hexec rfl (hb hbytes d33) rfl rfl ?_
    refine XS.iloadN X5.here hexec rfl (hb hbytes d34) rfl ?_
    refine XS.iloadN X5.here hexec rfl (hb hbytes d35) rfl ?_
    exact Steps.refl _)
  obtain ⟨v8, T8, X8, E8, g8⟩ := X5.callS hexec (Cmp3.law l b A o len) hown (wks W (staticW "java/lang/String" 177 Cmp3.yN)) (wk W Cmp3.tab) (W := 0) (Nat.le_of_ble_eq_true rfl) (Nat.le_of_ble_eq_true rfl) (Nat.le_refl _) (by show 0 + len ≤ len; omega) (g := (mkF m 36 #[.val (.ref a), .val (.ref b), .val (.int (Int32.ofNat o)), .val (.int (Int32.ofNat len)), .val .null, .unset] [.int (Int32.ofNat len), .int (Int32.ofNat o), .ref b])) rfl (by rw [hml]; rfl) c7 (argsL := [.ref b, .int (Int32.ofNat o), .int (Int32.ofNat len)]) (rest := []) rfl rfl (by show 2 * 0 + 0 ≤ _; decide) (hb hbytes d36) (⟨rfl, hA.mv X5.warmed.alike hh5, l1, l2, hp⟩)
  obtain ⟨e8, z8⟩ := E8
  obtain ⟨rfl, N, n1, n2, n3, n4, n5, n6⟩ := NewArr.mv _ T5 s _ _ hh5.symm (Vm.Alike.refl _) rfl e8
  rw [hh5] at z8
  have hB1 := hB.keep X8.warmed.alike (n6 _ _ hB.1)
  have hne : s.heap.size ≠ a := (Nat.ne_of_lt (Array.getElem?_eq_some_iff.mp hB.1).1).symm
  have c9 : Steps p.tables e below (s₁.setTop (entryFrame m #[.ref a, .ref b, .int (Int32.ofNat o), .int (Int32.ofNat len), .null] 6)) (T8.setTop (mkF m 39 #[.val (.ref a), .val (.ref b), .val (.int (Int32.ofNat o)), .val (.int (Int32.ofNat len)), .val .null, .unset] [.ref s.heap.size])) := g8
  have c10 : Steps p.tables e below (s₁.setTop (entryFrame m #[.ref a, .ref b, .int (Int32.ofNat o), .int (Int32.ofNat len), .null] 6)) (T8.setTop (mkF m 45 #[.val (.ref a), .val (.ref b), .val (.int (Int32.ofNat o)), .val (.int (Int32.ofNat len)), .val .null, .val (.ref s.heap.size)] [.int (Int32.ofNat N.slots.size), .ref s.heap.size, .ref a])) := by
    have hc : Steps p.tables e below (s₁.setTop (entryFrame m #[.ref a, .ref b, .int (Int32.ofNat o), .int (Int32.ofNat len), .null] 6)) (T8.setTop (mkF m 45 #[.val (.ref a), .val (.ref b), .val (.int (Int32.ofNat o)), .val (.int (Int32.ofNat len)), .val .null, .val (.ref s.heap.size)] [.int (Int32.ofNat len), .ref s.heap.size, .ref a])) := c9.trans (by
      refine XS.astore X8.here hexec rfl (hb hbytes d39) rfl rfl rfl ?_
      refine XS.aloadN X8.here hexec rfl (hb hbytes d41) rfl rfl ?_
      refine XS.aload X8.here hexec rfl (hb hbytes d42) rfl rfl ?_
      refine XS.iloadN X8.here hexec rfl (hb hbytes d44) rfl ?_
      exact Steps.refl _)
    rw [n4]; exact hc
  obtain ⟨v11, T11, X11, E11, g11⟩ := X8.callS hexec (CodL.law l s.heap.size N) hown (wks W (staticW "java/lang/String" 47 CodL.yN)) (wk W CodL.tab) (W := 1) (Nat.le_of_ble_eq_true rfl) (Nat.le_of_ble_eq_true rfl) (Nat.le_refl _) (by show 0 + len + 0 ≤ len; omega) (g := (mkF m 45 #[.val (.ref a), .val (.ref b), .val (.int (Int32.ofNat o)), .val (.int (Int32.ofNat len)), .val .null, .val (.ref s.heap.size)] [.int (Int32.ofNat N.slots.size), .ref s.heap.size, .ref a])) rfl (by rw [hml]; rfl) c10 (argsL := [.ref s.heap.size, .int (Int32.ofNat N.slots.size)]) (rest := [.ref a]) rfl rfl (by show 2 * 0 + (1 + 0) ≤ _; decide) (hb hbytes d45) (⟨rfl, n1⟩)
  obtain ⟨rfl, q11⟩ := E11
  have hB11 := hB1.mv (X8.warmed.alike.symm.trans X11.warmed.alike) q11
  have c12 : Steps p.tables e below (s₁.setTop (entryFrame m #[.ref a, .ref b, .int (Int32.ofNat o), .int (Int32.ofNat len), .null] 6)) (T11.setTop (mkF m 48 #[.val (.ref a), .val (.ref b), .val (.int (Int32.ofNat o)), .val (.int (Int32.ofNat len)), .val .null, .val (.ref s.heap.size)] [.int 0, .ref a])) := g11
  obtain ⟨T13, X13, p13, bl13, sl13, st13⟩ := X11.finit hexec hown (wk W (.fieldLink "java/lang/String" 15 "java/lang/String" "coder" "B")) (Or.inr ⟨_, (wk W (.laysFinal "java/lang/String" "java/lang/String" "coder" "B"))⟩) (Or.inl ⟨rfl, hnm⟩) f2 (Or.inl rfl) hB11 (t := .byte) (by decide +kernel) rfl (g := (mkF m 48 #[.val (.ref a), .val (.ref b), .val (.int (Int32.ofNat o)), .val (.int (Int32.ofNat len)), .val .null, .val (.ref s.heap.size)] [.int 0, .ref a])) rfl (rest := []) rfl (hb hbytes d48)
  have c14 : Steps p.tables e below (s₁.setTop (entryFrame m #[.ref a, .ref b, .int (Int32.ofNat o), .int (Int32.ofNat len), .null] 6)) (T13.setTop (mkF m 54 #[.val (.ref a), .val (.ref b), .val (.int (Int32.ofNat o)), .val (.int (Int32.ofNat len)), .val .null, .val (.ref s.heap.size)] [.ref s.heap.size, .ref a])) := (c12.trans (st13 _ (Steps.refl _))).trans (by
    refine XS.aloadN X13.here hexec rfl (hb hbytes d51) rfl rfl ?_
    refine XS.aload X13.here hexec rfl (hb hbytes d52) rfl rfl ?_
    exact Steps.refl _)
  obtain ⟨T15, X15, p15, bl15, sl15, st15⟩ := X13.finit hexec hown (wk W (.fieldLink "java/lang/String" 9 "java/lang/String" "value" "[B")) (Or.inr ⟨_, (wk W (.laysFinal "java/lang/String" "java/lang/String" "value" "[B"))⟩) (Or.inl ⟨rfl, hnm⟩) f1 (Or.inl rfl) bl13 (t := (.array .byte)) (by decide +kernel) rfl (g := (mkF m 54 #[.val (.ref a), .val (.ref b), .val (.int (Int32.ofNat o)), .val (.int (Int32.ofNat len)), .val .null, .val (.ref s.heap.size)] [.ref s.heap.size, .ref a])) rfl (rest := []) rfl (hb hbytes d54)
  have c16 : Steps p.tables e below (s₁.setTop (entryFrame m #[.ref a, .ref b, .int (Int32.ofNat o), .int (Int32.ofNat len), .null] 6)) (T15.setTop (mkF m 57 #[.val (.ref a), .val (.ref b), .val (.int (Int32.ofNat o)), .val (.int (Int32.ofNat len)), .val .null, .val (.ref s.heap.size)] [])) := c14.trans (st15 _ (Steps.refl _))
  have ap := apart (Or.inr ⟨_, (wk W (.laysFinal "java/lang/String" "java/lang/String" "value" "[B"))⟩) (Or.inr ⟨_, (wk W (.laysFinal "java/lang/String" "java/lang/String" "coder" "B"))⟩) f1 f2 (t₁ := .array .byte) (t₂ := .byte) (by decide +kernel) (by decide +kernel) (by decide)
  have al := X8.warmed.alike.symm.trans X15.warmed.alike
  have n7 : T11.heap[s.heap.size]? = some N := by rw [q11]; exact n1.1
  exact ⟨T15, none, _, _, _, X15, by simp, rfl, by omega, (fun _ => rfl), ⟨rfl, _, N, bl15, ((Same.refl D _).set _ (by simp)).set _ (by simp), sl15, (Cell.slots_setSlot_ne _ ap).trans sl13, n1.keep al (p15.other hne (p13.other hne n7)), n2, by rw [al.findClass]; exact n3, n4, n5, fun y c h1 h2 => p15.other h1 (p13.other h1 (by rw [q11]; exact n6 y c h2)), by rw [p15.2.2, p13.2.2, q11]; exact z8⟩, fun fs hl => c16.trans (X15.returnOut hexec hret (hb hbytes d57) hl)⟩
end New4
namespace New1
def yN : MethodName := ⟨"java/lang/String", "<init>", "([C)V"⟩
abbrev yB : ByteArray := jdk_42_method_3_code
theorem d0 : decode yB 0 = .ok (.aload_n 0, 1) := by decide +kernel
theorem d1 : decode yB 1 = .ok (.aload_n 1, 1) := by decide +kernel
theorem d2 : decode yB 2 = .ok (.iconst 0, 1) := by decide +kernel
theorem d3 : decode yB 3 = .ok (.aload_n 1, 1) := by decide +kernel
theorem d4 : decode yB 4 = .ok (.arraylength, 1) := by decide +kernel
theorem d5 : decode yB 5 = .ok (.aconst_null, 1) := by decide +kernel
theorem d6 : decode yB 6 = .ok (.invokespecial 27, 3) := by decide +kernel
theorem d9 : decode yB 9 = .ok (.return_, 1) := by decide +kernel
def site : List Cond := [New4.tab] ++ initW "java/lang/String" 27 New4.yN
def tab : Cond := tabOf yN yB 2 none site
def P (a : Addr) (D : Cell) (fV fC : Field) (b : Addr) (A : Cell) (z : Int32) (args : Array Value) (s : State) : Prop := args = #[.ref a, .ref b] ∧ Blank "java/lang/String" a D s ∧ Found "java/lang/String" "value" "[B" fV s ∧ Found "java/lang/String" "coder" "B" fC s ∧ Ch b A s ∧ StaticIs s "java/lang/String" "COMPACT_STRINGS" "Z" (.int z) ∧ ¬ z = 0 ∧ 0 < A.slots.size ∧ A.slots.size ≤ 536870912 ∧ ∀ i, i < A.slots.size → ¬ 255 < cv A i
def E (a : Addr) (D : Cell) (fV fC : Field) (A : Cell) (r : Option Value) (s u : State) : Prop := Got a D fV fC A 0 A.slots.size r s u
/-- new String(chars), not empty, no char above 255: a Latin-1 String of their low bytes -/
theorem law (l : Launch) (a : Addr) (D : Cell) (fV fC : Field) (b : Addr) (A : Cell) (z : Int32) : Law l yN 2 1 3 52 yB 2 none site (P a D fV fC b A z) (E a D fV fC A) [⟨a, fC.slot⟩, ⟨a, fV.slot⟩] 1 A.slots.size := by
  refine Law.of_walk (plainFor_of_name (by decide +kernel)) (by decide +kernel) (by decide +kernel) (by decide) (fun _ _ h => by rw [h.1]; rfl) (fun _ U U' hal hh h => ⟨h.1, h.2.1.mv hal hh, h.2.2.1.al hal, h.2.2.2.1.al hal, h.2.2.2.2.1.mv hal hh, h.2.2.2.2.2.1.there hal hh, h.2.2.2.2.2.2⟩) (fun r U U' V V' h1 hal h2 h => Got.mv r U U' V V' h1 hal h2 h) ?_
  intro p e s m args below meth c s₁ X0 hexec hbytes hml hret hlk hnm hown hh0 W hP
  obtain ⟨rfl, hB, f1, f2, hA, s1, hz, l0, l2, hp⟩ := hP
  have c1 : Steps p.tables e below (s₁.setTop (entryFrame m #[.ref a, .ref b] 2)) (s₁.setTop (mkF m 0 #[.val (.ref a), .val (.ref b)] [])) := entry rfl
  have c2 : Steps p.tables e below (s₁.setTop (entryFrame m #[.ref a, .ref b] 2)) (s₁.setTop (mkF m 6 #[.val (.ref a), .val (.ref b)] [.null, .int (Int32.ofNat A.slots.size), .int 0, .ref b, .ref a])) := c1.trans (by
    refine XS.aloadN X0.here hexec rfl (hb hbytes d0) rfl rfl ?_
    refine XS.aloadN X0.here hexec rfl (hb hbytes d1) rfl rfl ?_
    refine iconstV X0.here hexec rfl 0 (hb hbytes d2) (by decide) ?_
    refine XS.aloadN X0.here hexec rfl (hb hbytes d3) rfl rfl ?_
    refine X0.alen hexec (hA.1.mv X0.warmed.alike hh0) rfl rfl (hb hbytes d4) ?_
    refine XS.aconstNull X0.here hexec rfl (hb hbytes d5) ?_
    exact Steps.refl _)
  obtain ⟨v3, T3, X3, E3, g3⟩ := X0.callN hexec (New4.law l a D fV fC b A z 0 A.slots.size) rfl hown (wks W (initW "java/lang/String" 27 New4.yN)) (W New4.tab (by simp only [site, List.mem_cons, List.mem_append, true_or, or_true])) (W := 0) (Nat.le_of_ble_eq_true rfl) (Nat.le_of_ble_eq_true rfl) (Nat.le_refl _) (by show 0 + A.slots.size ≤ A.slots.size; omega) (g := (mkF m 6 #[.val (.ref a), .val (.ref b)] [.null, .int (Int32.ofNat A.slots.size), .int (Int32.ofNat 0), .ref b, .ref a])) rfl (by rw [hml]; rfl) c2 (argsL := [.ref b, .int (Int32.ofNat 0), .int (Int32.ofNat A.slots.size), .null]) (rest := []) rfl rfl (by show 2 * 0 + 0 ≤ _; decide) (hb hbytes d6) (⟨rfl, hB.mv X0.warmed.alike hh0, f1.al X0.warmed.alike, f2.al X0.warmed.alike, hA.mv X0.warmed.alike hh0, s1.there X0.warmed.alike hh0, hz, l0, by omega, l2, fun i hi => by rw [Nat.zero_add]; exact hp i hi⟩)
  have e0 := Got.mv _ s₁ s _ _ hh0.symm (Vm.Alike.refl _) rfl E3
  obtain rfl := e0.1
  have c4 : Steps p.tables e below (s₁.setTop (entryFrame m #[.ref a, .ref b] 2)) (T3.setTop (mkF m 9 #[.val (.ref a), .val (.ref b)] [])) := g3
  exact ⟨T3, none, _, _, _, X3, by simp, rfl, by omega, (fun _ => rfl), e0, fun fs hl => c4.trans (X3.returnOut hexec hret (hb hbytes d9) hl)⟩
theorem pays {l : Launch} {R : Room} {p : Program} {e : Env} {below : List Frame} {s : State} {sargs : Array Value} {len W : Nat} (a : Addr) (D : Cell) (fV fC : Field) (b : Addr) (A : Cell) (z : Int32) (htab : tab.before sargs s = true) (hfr : 4 ≤ R.frames) (hlo : W + 65 ≤ R.locals) :
    Back l R p e below s sargs yN len W (fun A₁ a₁ => A₁.cells + 1 ≤ R.cells ∧ A₁.slots + A.slots.size ≤ R.slots ∧ P a D fV fC b A z a₁ A₁.U) (fun A₁ _ v₁ B₁ => E a D fV fC A v₁ A₁.U B₁.U ∧ B₁.locs = A₁.locs ++ [⟨a, fC.slot⟩, ⟨a, fV.slot⟩] ∧ B₁.cells = A₁.cells + 1 ∧ B₁.slots = A₁.slots + A.slots.size) :=
  (law l a D fV fC b A z).pays htab hfr (by omega)
end New1
end StrChars
namespace StrChars.Road
open Jvm Sem ClassFile Op Lib Jvm.Stand Jvm.Free Jvm.Free.XT
open Jvm.Lib.Cold (StaticIs)
abbrev ST : String := "java/lang/String"
/-- every table word that New1's law asks, flat -/
abbrev words : List Jvm.Cond := [.code New1.yN New1.yB 2 none, .initialized ST, .methodLink ST 27 New4.yN, .instanceMethod New4.yN,
  .code New4.yN New4.yB 6 none, .fieldLink ST 38 ST "COMPACT_STRINGS" "Z", .laysFinal ST ST "value" "[B", .fieldLink ST 9 ST "value" "[B", .laysFinal ST ST "coder" "B", .fieldLink ST 15 ST "coder" "B",
  .methodLink ST 1 Lib.objectInit, .instanceMethod Lib.objectInit, .code Lib.objectInit ⟨#[0xb1]⟩ 1 none, .methodLink ST 177 Cmp3.yN, .static Cmp3.yN, .methodLink ST 47 CodL.yN, .static CodL.yN,
  .code Cmp3.yN Cmp3.yB 6 (some (.array .byte)), .initialized U16, .arrayClass .byte, .methodLink U16 115 Cmp5.yN, .static Cmp5.yN, .code Cmp5.yN Cmp5.yB 7 (some .int), .code CodL.yN CodL.yB 2 (some .byte)]
theorem tab_of {a : Array Value} {s : State} (h : ∀ w ∈ words, w.before a s = true) : New1.tab.before a s = true := by
  have h5 : Cmp5.tab.before a s = true := unparts (wk h (.code Cmp5.yN Cmp5.yB 7 (some .int))) (wks h (.initialized Cmp5.yN.cls :: Cmp5.site))
  have hc : CodL.tab.before a s = true := unparts (wk h (.code CodL.yN CodL.yB 2 (some .byte))) (wks h (.initialized CodL.yN.cls :: CodL.site))
  have q5 : ∀ w ∈ Cmp5.tab :: words, w.before a s = true := fun w hw => (List.mem_cons.mp hw).elim (fun e => e ▸ h5) (h w)
  have h3 : Cmp3.tab.before a s = true := unparts (wk q5 (.code Cmp3.yN Cmp3.yB 6 (some (.array .byte)))) (wks q5 (.initialized Cmp3.yN.cls :: Cmp3.site))
  have q3 : ∀ w ∈ Cmp3.tab :: CodL.tab :: words, w.before a s = true := fun w hw => (List.mem_cons.mp hw).elim (fun e => e ▸ h3) fun hw => (List.mem_cons.mp hw).elim (fun e => e ▸ hc) (h w)
  have h4 : New4.tab.before a s = true := unparts (wk q3 (.code New4.yN New4.yB 6 none)) (wks q3 (.initialized New4.yN.cls :: New4.site))
  have q4 : ∀ w ∈ New4.tab :: words, w.before a s = true := fun w hw => (List.mem_cons.mp hw).elim (fun e => e ▸ h4) (h w)
  exact unparts (wk q4 (.code New1.yN New1.yB 2 none)) (wks q4 (.initialized New1.yN.cls :: New1.site))
/-- the words ride from the start Z to the walk's own state -/
theorem moved {Z s : State} {a0 args : Array Value} (hZ : Z.Warmed39 s.vm) (hw : ∀ d ∈ words, d.before a0 Z = true) : ∀ d ∈ words, d.before args s = true := fun d hd => by
  have q := hw d hd
  have t : ∀ d ∈ words, d = .arrayClass .byte ∨ (d.onTables && d.keepsFace) = true := by decide +kernel
  rcases t d hd with rfl | t
  · exact RoadKit.mvA hZ q
  · exact RoadKit.mv hZ q t
/-- WHAT COMES BACK, over the tables of the start Z: h the heap at the call, h' behind it -/
def Q (Z : State) (x : Addr) (A : Cell) (h : Heap) (v : Option Value) (h' : Heap) (L : List Loc) : Prop := v = none ∧ (∀ y ∈ L, y.base = x) ∧ RoadKit.Keep h h' [x] ∧ h'.size = h.size + 1 ∧ RoadKit.Exa Z h' x ST ∧ RoadKit.Fld Z h' x ST "value" "[B" (.ref h.size) ∧ RoadKit.Fld Z h' x ST "coder" "B" (.int 0) ∧
  (∃ V : Cell, RoadKit.Arr Z h' h.size V .byte ∧ V.vm = .none ∧ Z.vm.findClass "[B" = some V.cls ∧ V.slots.size = A.slots.size ∧ ∀ j, j < A.slots.size → V.slots[j]? = some (.int (lo8 (cv A j)))) ∧
  ∀ (O n d : String) (w : Value), RoadKit.Fld Z h x O n d w → RoadKit.slotOf Z O n d ≠ RoadKit.slotOf Z ST "value" "[B" → RoadKit.slotOf Z O n d ≠ RoadKit.slotOf Z ST "coder" "B" → RoadKit.Fld Z h' x O n d w
/-- **new String(chars) AT A CALL, IN THE ROAD'S FORM**: for specialBack behind newO: x the fresh String, b the char[] with the cell A -/
theorem back {p : Program} {l : Launch} {e : Env} {R : Room} {s : State} {args : Array Value} {below : List Frame} {len W : Nat} {Z : State} {a0 : Array Value} {h : Heap} (hZ : Z.Warmed39 s.vm) (hw : ∀ d ∈ words, d.before a0 Z = true) {kI : Nat} (wi : (Jvm.Cond.instantiable ST kI).before a0 Z = true)
    {x b : Addr} {A : Cell} {z : Int32} {v0 c0 : Value} (E : RoadKit.Exa Z h x ST) (V : RoadKit.Fld Z h x ST "value" "[B" v0) (C : RoadKit.Fld Z h x ST "coder" "B" c0) (K : RoadKit.Arr Z h b A .char) (hty : Typed .char A) (S : RoadKit.Sta Z h ST "COMPACT_STRINGS" "Z" (.int z)) (hz : ¬ z = 0)
    (l0 : 0 < A.slots.size) (l2 : A.slots.size ≤ 536870912) (hp : ∀ i, i < A.slots.size → ¬ 255 < cv A i) (hfr : 4 ≤ R.frames) (hlo : W + 65 ≤ R.locals) :
    Back l R p e below s args New1.yN len W (fun P a => a = #[.ref x, .ref b] ∧ P.U.heap = h ∧ P.cells + 1 ≤ R.cells ∧ P.slots + A.slots.size ≤ R.slots)
      (fun P _ v B => ∃ L, Q Z x A h v B.U.heap L ∧ B.locs = P.locs ++ L ∧ B.cells = P.cells + 1 ∧ B.slots = P.slots + A.slots.size) := by
  intro m meth c P g ig mk a X hg hsize hdg hW hn hp'
  obtain ⟨rfl, rfl, r1, r2⟩ := hp'
  have al : Z.vm.Alike P.U.vm := hZ.alike.trans X.warmed.alike
  obtain ⟨D, cfV, kV, iV, fV, hD, gV, stV, knV, obV, asV, slV⟩ := id V
  obtain ⟨D', cfC, kC, iC, fC, hD', gC, stC, -, -, asC, slC⟩ := id C
  cases hD.symm.trans hD'
  obtain ⟨D2, kD, e1, e2, e3, e4, e5⟩ := id E
  cases hD.symm.trans e1
  obtain ⟨c2, k2, i1, i2, i3, -⟩ := Cond.instantiable_spec wi
  cases e2.symm.trans i1
  cases e3.symm.trans i2
  obtain ⟨kU, u1, u2⟩ := al.2.2 _ _ e3
  have hB : Blank ST x D P.U := ⟨hD, ⟨knV, fun q hq => by rw [hq] at obV; cases obV⟩, by rw [al.findClass]; exact e2, kU, u1, by rw [u2]; exact i3, by rw [u2]; exact e5 i3⟩
  have F1 : Found ST "value" "[B" fV P.U := ⟨SBG.found_only al ⟨cfV, kV, iV, gV⟩, stV⟩
  have F2 : Found ST "coder" "B" fC P.U := ⟨SBG.found_only al ⟨cfC, kC, iC, gC⟩, stC⟩
  have hA : Ch b A P.U := ⟨⟨K.1, State.isArrayOf_alike al K.2.1, K.2.2, by omega⟩, hty⟩
  have hS : StaticIs P.U ST "COMPACT_STRINGS" "Z" (.int z) := by
    obtain ⟨cfS, iS, kS, fS, st, cS, t1, t2, t3, t4, t5, t6, t7⟩ := S
    exact StaticIs.there (s := { Z with heap := P.U.heap }) ⟨cfS, iS, kS, fS, st, cS, t1, t2, t3, t4, t5, (fun q => by rw [q] at t6; cases t6), t7⟩ al rfl
  obtain ⟨v, B, X', ⟨⟨hv, E', V', q1, q2, q3, q4, q5, q6, q7, q8, q9, q10, q11⟩, hl, hc, hs⟩, st⟩ := New1.pays x D fV fC b A z (tab_of (moved hZ hw)) hfr hlo m meth c P g ig mk _ X hg hsize hdg hW hn ⟨r1, r2, rfl, hB, F1, F2, hA, hS, hz, l0, l2, hp⟩
  have al' : Z.vm.Alike B.U.vm := hZ.alike.trans X'.warmed.alike
  have hsz : E'.slots.size = D.slots.size := by
    obtain ⟨-, -, -, kB, w1, w2, w3⟩ := q1
    obtain ⟨kB', y1, y2⟩ := al'.2.2 _ _ e3
    rw [q2.2.1] at w1
    cases w1.symm.trans y1
    rw [w3, e5 i3, y2]
  refine ⟨v, B, X', ⟨_, ⟨hv, ?_, ⟨by omega, fun y cy hy hn' => q10 y cy (by simpa using hn') hy, fun y cy hy => ?_⟩, q11, ⟨E', _, q1.1, by rw [q2.2.1]; exact e2, by rw [q2.2.1]; exact e3, by rw [q2.1]; exact obV, fun _ => by rw [hsz]; exact e5 i3⟩,
    ⟨E', cfV, kV, iV, fV, q1.1, gV, stV, by rw [q2.1]; exact knV, by rw [q2.1]; exact obV, by rw [q2.2.1]; exact asV, q3⟩, ⟨E', cfC, kC, iC, fC, q1.1, gC, stC, by rw [q2.1]; exact knV, by rw [q2.1]; exact obV, by rw [q2.2.1]; exact asC, q4⟩,
    ⟨V', ⟨q5.1, State.isArrayOf_alike al'.symm q5.2.1, q5.2.2.1⟩, q6, by rw [← al'.findClass]; exact q7, q8, fun j hj => by have := q9 j hj; rwa [Nat.zero_add] at this⟩, fun O n d w F n1 n2 => ?_⟩, hl, hc, hs⟩, st⟩
  · intro y hy
    simp only [List.mem_cons, List.not_mem_nil, or_false] at hy
    rcases hy with rfl | rfl <;> rfl
  · by_cases q : y = x
    · subst q
      cases hD.symm.trans hy
      exact ⟨E', q1.1, q2.2.1, q2.1, hsz⟩
    · exact ⟨cy, q10 y cy q hy, rfl, rfl, rfl⟩
  · obtain ⟨D3, cf, k, i, f, g1, g2, g3, g4, g5, g6, g7⟩ := F
    cases hD.symm.trans g1
    simp only [RoadKit.slotOf, g2, gV, gC, Option.map_some, Option.getD_some] at n1 n2
    exact ⟨E', cf, k, i, f, q1.1, g2, g3, by rw [q2.1]; exact g4, by rw [q2.1]; exact g5, by rw [q2.2.1]; exact g6, by rw [q2.2.2 f.slot (by simp [n1, n2])]; exact g7⟩
end StrChars.Road
namespace StrChars.Road
open Jvm Sem ClassFile Op Lib Jvm.Stand Jvm.Free Jvm.Free.XT
/-- WHAT COMES BACK, the byte[] as a list of values -/
def QA (Z : State) (x : Addr) (zn : Int32) (cs : List Int32) (h : Heap) (v : Option Value) (h' : Heap) (L : List Loc) : Prop := v = none ∧ (∀ y ∈ L, y.base = x) ∧ RoadKit.Keep h h' [x] ∧ h'.size = h.size + 1 ∧ RoadKit.Exa Z h' x ST ∧ RoadKit.Fld Z h' x ST "value" "[B" (.ref h.size) ∧ RoadKit.Fld Z h' x ST "coder" "B" (.int 0) ∧
  (∃ kb, Z.vm.findClass "[B" = some kb ∧ RoadKit.Arv Z h' h.size kb .byte zn (cs.map fun c => .int (lo8 c)) (.int 0)) ∧
  ∀ (O n d : String) (w : Value), RoadKit.Fld Z h x O n d w → RoadKit.slotOf Z O n d ≠ RoadKit.slotOf Z ST "value" "[B" → RoadKit.slotOf Z O n d ≠ RoadKit.slotOf Z ST "coder" "B" → RoadKit.Fld Z h' x O n d w
/-- **new String(chars) AT A CALL, THE ARRAYS AS LISTS**: the char[] at b holds cs, not empty, no char above 255 -/
theorem backArv {p : Program} {l : Launch} {e : Env} {R : Room} {s : State} {args : Array Value} {below : List Frame} {len W : Nat} {Z : State} {a0 : Array Value} {h : Heap} (hZ : Z.Warmed39 s.vm) (hw : ∀ d ∈ words, d.before a0 Z = true) {kI : Nat} (wi : (Jvm.Cond.instantiable ST kI).before a0 Z = true)
    {x b : Addr} {k : ClassId} {zn z : Int32} {cs : List Int32} {dv v0 c0 : Value} (E : RoadKit.Exa Z h x ST) (V : RoadKit.Fld Z h x ST "value" "[B" v0) (C : RoadKit.Fld Z h x ST "coder" "B" c0) (K : RoadKit.Arv Z h b k .char zn (cs.map Value.int) dv) (S : RoadKit.Sta Z h ST "COMPACT_STRINGS" "Z" (.int z)) (hz : ¬ z = 0)
    (hlen : zn.toNatClampNeg = cs.length) (h0 : 0 < cs.length) (hbig : cs.length ≤ 536870912) (hall : ∀ c ∈ cs, ¬ 255 < c) (hfr : 4 ≤ R.frames) (hlo : W + 65 ≤ R.locals) :
    Back l R p e below s args New1.yN len W (fun P a => a = #[.ref x, .ref b] ∧ P.U.heap = h ∧ P.cells + 1 ≤ R.cells ∧ P.slots + cs.length ≤ R.slots)
      (fun P _ v B => ∃ L, QA Z x zn cs h v B.U.heap L ∧ B.locs = P.locs ++ L ∧ B.cells = P.cells + 1 ∧ B.slots = P.slots + cs.length) := by
  obtain ⟨A, K1, K2, K3, K4, K5, K6⟩ := K
  have e : A.slots.size = cs.length := K3.trans hlen
  have hat : ∀ (i : Nat) (hi : i < cs.length), A.slots[i]? = some (.int cs[i]) := fun i hi => by rw [K5 i (by omega)]; simp [List.getD_eq_getElem?_getD, hi]
  have hcv : ∀ (i : Nat) (hi : i < cs.length), cv A i = cs[i] := fun i hi => by unfold cv; rw [hat i hi]
  have hty : Typed .char A := fun i v hv => by
    have hi : i < A.slots.size := (Array.getElem?_eq_some_iff.mp hv).1
    have q := K5 i hi
    rw [hv] at q
    rw [Option.some.inj q]
    exact K6 i hi
  refine Back.mono (back hZ hw wi E V C K1 hty S hz (by omega) (by omega) (fun i hi => by rw [hcv i (by omega)]; exact hall _ (List.getElem_mem _)) hfr hlo) (fun P a hp => ⟨hp.1, hp.2.1, hp.2.2.1, by rw [e]; exact hp.2.2.2⟩) (fun P a v B hp hq => ?_)
  obtain ⟨L, ⟨q1, q2, q3, q4, q5, q6, q7, ⟨V', v1, v2, v3, v4, v5⟩, q9⟩, hl, hc, hs⟩ := hq
  refine ⟨L, ⟨q1, q2, q3, q4, q5, q6, q7, ⟨V'.cls, v3, V', v1, rfl, by rw [v4, e, hlen], K4, fun i hi => ?_, fun i hi => ?_⟩, q9⟩, hl, hc, by rw [hs, e]⟩
  · have hi' : i < cs.length := by omega
    rw [v5 i (by omega), hcv i hi']; simp [List.getD_eq_getElem?_getD, hi']
  · have hi' : i < cs.length := by omega
    simp only [List.getD_eq_getElem?_getD, List.getElem?_map, List.getElem?_eq_getElem hi', Option.map_some, Option.getD_some]
    exact fits_lo8 _
end StrChars.Road
namespace StrChars.Road
open Jvm Sem ClassFile Op Lib Jvm.Stand Jvm.Free Jvm.Free.XT
/-- WHAT COMES BACK, in the writer's own shape -/
def QV (Z : State) (x : Addr) (N : Int32) (bs : List Int32) (h : Heap) (n0 : Nat) (v : Option Value) (h' : Heap) (L : List Loc) : Prop := v = none ∧ RoadKit.Fr n0 L ∧ RoadKit.Keep h h' [x] ∧ RoadKit.Exa Z h' x ST ∧ RoadKit.Fld Z h' x ST "coder" "B" (.int 0) ∧
  ∃ (t : Addr) (kb : ClassId), n0 ≤ t ∧ h.size ≤ t ∧ ¬ t = x ∧ RoadKit.Fld Z h' x ST "value" "[B" (.ref t) ∧ RoadKit.Arv Z h' t kb .byte N (bs.map Value.int) (.int 0)
/-- **new String(chars) AT A CALL, FOR THE WRITER**: a char[] of n known ints, each 0 to 255 -/
theorem backV {p : Program} {l : Launch} {e : Env} {R : Room} {s : State} {args : Array Value} {below : List Frame} {len W : Nat} {Z : State} {a0 : Array Value} {h : Heap} (hZ : Z.Warmed39 s.vm) (hw : ∀ d ∈ words, d.before a0 Z = true) {kI : Nat} (wi : (Jvm.Cond.instantiable ST kI).before a0 Z = true)
    {x b : Addr} {kC : ClassId} {cs bs : List Int32} {d v0 c0 : Value} {z N : Int32} {n n0 : Nat} (hx0 : n0 ≤ x) (hh0 : n0 ≤ h.size) (E : RoadKit.Exa Z h x ST) (V : RoadKit.Fld Z h x ST "value" "[B" v0) (C : RoadKit.Fld Z h x ST "coder" "B" c0) (K : RoadKit.Arv Z h b kC .char N (cs.map Value.int) d) (S : RoadKit.Sta Z h ST "COMPACT_STRINGS" "Z" (.int z)) (hz : ¬ z = 0)
    (hn : cs.length = n) (hN : N = Int32.ofNat n) (l0 : 0 < n) (l2 : n ≤ 4000) (hp : ∀ c ∈ cs, ¬ c < 0 ∧ ¬ (255 : Int32) < c) (hb : bs = cs.map (fun c => c.toInt8.toInt32)) (hfr : 4 ≤ R.frames) (hlo : W + 65 ≤ R.locals) :
    Back l R p e below s args (⟨"java/lang/String", "<init>", "([C)V"⟩ : MethodName) len W (fun P a => a = #[.ref x, .ref b] ∧ P.U.heap = h ∧ P.cells + 1 ≤ R.cells ∧ P.slots + n ≤ R.slots)
      (fun P _ v B => ∃ L, QV Z x N bs h n0 v B.U.heap L ∧ B.locs = P.locs ++ L ∧ B.cells = P.cells + 1 ∧ B.slots = P.slots + n) := by
  subst hn hN hb
  refine Back.mono (backArv hZ hw wi E V C K S hz (n32 (by omega)) l0 (by omega) (fun c hc => (hp c hc).2) hfr hlo) (fun P a hp => hp) (fun P a v B hp hq => ?_)
  obtain ⟨L, ⟨q1, q2, q3, q4, q5, q6, q7, ⟨kb, v1, v2⟩, q9⟩, hl, hc, hs⟩ := hq
  exact ⟨L, ⟨q1, fun y hy => by rw [q2 y hy]; exact hx0, q3, q5, q7, h.size, kb, hh0, Nat.le_refl _, Nat.ne_of_gt E.lt, q6, by rw [List.map_map]; exact v2⟩, hl, hc, hs⟩
end StrChars.Road
end Jvm.Pilot.@@N@@
namespace Jvm.Pilot.@@N@@
open Jvm Jvm.ClassFile Sem Op Lib Jvm.Free Jvm.Stand Jvm.LawKit Jvm.RoadKit Bundle Jvm.Pilot.@@N@@.Jvm.D
section OwnPre
def Gl (tb : Tables) (e : Env) (below : List Frame) (P : State → Outcome → Prop) (T : State) (m : MethodId) (pc : Nat) (L : Array Slot) (S : List Value) : Prop := ∃ s₂ o, Steps tb e below (T.setTop (mkF m pc L S)) s₂ ∧ P s₂ o
def Wk (p : Program) (l : Launch) (e : Env) (R : Room) (s : State) (m : MethodId) (args : Array Value) (below : List Frame) (meth : Method) (c : Code) (own : String) (Z : State) (hb : Heap) (ws : List Addr) (I : Heap → Prop) (T : State) (h : Heap) (locs : List Loc) (cells slots : Nat) : Prop :=
  Stand p l e R s m args below meth c T locs cells slots ∧ p.tables.exec = Jvm.exec ∧ T.heap = h ∧ Z.Warmed39 s.vm ∧ s.vm.findClass own = some m.cls ∧ Old Z Z.heap.size h ∧ Fr Z.heap.size locs ∧ Keep hb h ws ∧ I h
variable {p : Program} {l : Launch} {e : Env} {R : Room} {s : State} {m : MethodId} {args : Array Value} {below : List Frame} {meth : Method} {c : Code} {T : State} {locs : List Loc} {cells slots cells' slots' : Nat} {Z : State} {a0 : Array Value} {h hb : Heap} {ws : List Addr} {own : String} {I : Heap → Prop} {P : State → Outcome → Prop} {pc pc' : Nat} {L L' : Array Slot} {S : List Value}
theorem Gl.st {tb : Tables} {T T' : State} {S' : List Value} (k : ∀ target, Steps tb e below (T'.setTop (mkF m pc' L' S')) target → Steps tb e below (T.setTop (mkF m pc L S)) target) (G : Gl tb e below P T' m pc' L' S') : Gl tb e below P T m pc L S := by
  obtain ⟨s2, o, h1, h2⟩ := G
  exact ⟨s2, o, k _ h1, h2⟩
theorem Gl.tr {tb : Tables} {T T' : State} {S' : List Value} (k : Steps tb e below (T.setTop (mkF m pc L S)) (T'.setTop (mkF m pc' L' S'))) (G : Gl tb e below P T' m pc' L' S') : Gl tb e below P T m pc L S := by
  obtain ⟨s2, o, h1, h2⟩ := G
  exact ⟨s2, o, k.trans h1, h2⟩
theorem Wk.ox (W : Wk p l e R s m args below meth c own Z hb ws I T h locs cells slots) : Ext Z.heap h := W.2.2.2.2.2.1.2
theorem Wk.old (W : Wk p l e R s m args below meth c own Z hb ws I T h locs cells slots) : Old Z Z.heap.size h := W.2.2.2.2.2.1
theorem Wk.keep (W : Wk p l e R s m args below meth c own Z hb ws I T h locs cells slots) : Keep hb h ws := W.2.2.2.2.2.2.2.1
theorem Wk.inv (W : Wk p l e R s m args below meth c own Z hb ws I T h locs cells slots) : I h := W.2.2.2.2.2.2.2.2
theorem Wk.zs (W : Wk p l e R s m args below meth c own Z hb ws I T h locs cells slots) : Z.heap.size ≤ h.size := W.ox.1
theorem Wk.al (W : Wk p l e R s m args below meth c own Z hb ws I T h locs cells slots) : Z.vm.Alike s.vm := W.2.2.2.1.alike
theorem o_iloadN (W : Wk p l e R s m args below meth c own Z hb ws I T h locs cells slots) {k : Fin 4} {v : Int32} (hd : decode c.code pc = .ok (.iload_n k, 1)) (hl : L[k.val]? = some (.val (.int v))) (hp : pc + 1 = pc') (K : Gl p.tables e below P T m pc' L (.int v :: S)) : Gl p.tables e below P T m pc L S := by
  subst hp; exact Gl.st (fun _ q => XS.iloadN W.1.here W.2.1 rfl hd hl q) K
theorem o_iload (W : Wk p l e R s m args below meth c own Z hb ws I T h locs cells slots) {k : Nat} {v : Int32} (hd : decode c.code pc = .ok (.iload k, 2)) (hl : L[k]? = some (.val (.int v))) (hp : pc + 2 = pc') (K : Gl p.tables e below P T m pc' L (.int v :: S)) : Gl p.tables e below P T m pc L S := by
  subst hp; exact Gl.st (fun _ q => XS.iload W.1.here W.2.1 rfl hd hl q) K
theorem o_istore (W : Wk p l e R s m args below meth c own Z hb ws I T h locs cells slots) {k : Nat} {v : Int32} {L' : Array Slot} (hd : decode c.code pc = .ok (.istore k, 2)) (hl : storeLocals L k (.int v) = some L') (hp : pc + 2 = pc') (K : Gl p.tables e below P T m pc' L' S) : Gl p.tables e below P T m pc L (.int v :: S) := by
  subst hp; exact Gl.st (fun _ q => XS.istore W.1.here W.2.1 rfl hd rfl hl q) K
theorem o_lloadN (W : Wk p l e R s m args below meth c own Z hb ws I T h locs cells slots) {k : Fin 4} {v : Int64} (hd : decode c.code pc = .ok (.lload_n k, 1)) (hl : L[k.val]? = some (.val (.long v))) (hp : pc + 1 = pc') (K : Gl p.tables e below P T m pc' L (.long v :: S)) : Gl p.tables e below P T m pc L S := by
  subst hp; exact Gl.st (fun _ q => XS.lloadN W.1.here W.2.1 rfl hd hl q) K
theorem o_lload (W : Wk p l e R s m args below meth c own Z hb ws I T h locs cells slots) {k : Nat} {v : Int64} (hd : decode c.code pc = .ok (.lload k, 2)) (hl : L[k]? = some (.val (.long v))) (hp : pc + 2 = pc') (K : Gl p.tables e below P T m pc' L (.long v :: S)) : Gl p.tables e below P T m pc L S := by
  subst hp; exact Gl.st (fun _ q => XS.lload W.1.here W.2.1 rfl hd hl q) K
theorem o_aloadN (W : Wk p l e R s m args below meth c own Z hb ws I T h locs cells slots) {k : Fin 4} {v : Value} (hd : decode c.code pc = .ok (.aload_n k, 1)) (hl : L[k.val]? = some (.val v)) (hv : v.isRef = true) (hp : pc + 1 = pc') (K : Gl p.tables e below P T m pc' L (v :: S)) : Gl p.tables e below P T m pc L S := by
  subst hp; exact Gl.st (fun _ q => XS.aloadN W.1.here W.2.1 rfl hd hl hv q) K
theorem o_aload (W : Wk p l e R s m args below meth c own Z hb ws I T h locs cells slots) {k : Nat} {v : Value} (hd : decode c.code pc = .ok (.aload k, 2)) (hl : L[k]? = some (.val v)) (hv : v.isRef = true) (hp : pc + 2 = pc') (K : Gl p.tables e below P T m pc' L (v :: S)) : Gl p.tables e below P T m pc L S := by
  subst hp; exact Gl.st (fun _ q => XS.aload W.1.here W.2.1 rfl hd hl hv q) K
theorem o_astore (W : Wk p l e R s m args below meth c own Z hb ws I T h locs cells slots) {k : Nat} {v : Value} {L' : Array Slot} (hd : decode c.code pc = .ok (.astore k, 2)) (hv : v.isRef = true) (hl : storeLocals L k v = some L') (hp : pc + 2 = pc') (K : Gl p.tables e below P T m pc' L' S) : Gl p.tables e below P T m pc L (v :: S) := by
  subst hp; exact Gl.st (fun _ q => XS.astore W.1.here W.2.1 rfl hd rfl hv hl q) K
theorem o_iconst (W : Wk p l e R s m args below meth c own Z hb ws I T h locs cells slots) {i : Int} {v : Int32} (hd : decode c.code pc = .ok (.iconst i, 1)) (hv : Int32.ofInt i = v) (hp : pc + 1 = pc') (K : Gl p.tables e below P T m pc' L (.int v :: S)) : Gl p.tables e below P T m pc L S := by
  subst hp; exact Gl.st (fun _ q => XT.iconstV W.1.here W.2.1 rfl v hd hv q) K
theorem o_bipush (W : Wk p l e R s m args below meth c own Z hb ws I T h locs cells slots) {i : Int} {v : Int32} (hd : decode c.code pc = .ok (.bipush i, 2)) (hv : (Int8.ofInt i).toInt32 = v) (hp : pc + 2 = pc') (K : Gl p.tables e below P T m pc' L (.int v :: S)) : Gl p.tables e below P T m pc L S := by
  subst hp; exact Gl.st (fun _ q => XT.bipushV W.1.here W.2.1 rfl v hd hv q) K
theorem o_sipush (W : Wk p l e R s m args below meth c own Z hb ws I T h locs cells slots) {i : Int} {v : Int32} (hd : decode c.code pc = .ok (.sipush i, 3)) (hv : (Int16.ofInt i).toInt32 = v) (hp : pc + 3 = pc') (K : Gl p.tables e below P T m pc' L (.int v :: S)) : Gl p.tables e below P T m pc L S := by
  subst hp; exact Gl.st (fun _ q => XT.sipushV W.1.here W.2.1 rfl v hd hv q) K
theorem o_lconst (W : Wk p l e R s m args below meth c own Z hb ws I T h locs cells slots) {k : Fin 2} {v : Int64} (hd : decode c.code pc = .ok (.lconst k, 1)) (hv : Int64.ofNat k = v) (hp : pc + 1 = pc') (K : Gl p.tables e below P T m pc' L (.long v :: S)) : Gl p.tables e below P T m pc L S := by
  subst hp; exact Gl.st (fun _ q => XT.lconstV W.1.here W.2.1 rfl v hd hv q) K
theorem o_aconstNull (W : Wk p l e R s m args below meth c own Z hb ws I T h locs cells slots)  (hd : decode c.code pc = .ok (.aconst_null, 1)) (hp : pc + 1 = pc') (K : Gl p.tables e below P T m pc' L (.null :: S)) : Gl p.tables e below P T m pc L S := by
  subst hp; exact Gl.st (fun _ q => XS.aconstNull W.1.here W.2.1 rfl hd q) K
theorem o_iand (W : Wk p l e R s m args below meth c own Z hb ws I T h locs cells slots) {x y v : Int32} (hd : decode c.code pc = .ok (.iand, 1)) (hv : x &&& y = v) (hp : pc + 1 = pc') (K : Gl p.tables e below P T m pc' L (.int v :: S)) : Gl p.tables e below P T m pc L (.int y :: .int x :: S) := by
  subst hp; exact Gl.st (fun _ q => XS.iand W.1.here W.2.1 rfl hd rfl (by rw [hv]; exact q)) K
theorem o_iushr (W : Wk p l e R s m args below meth c own Z hb ws I T h locs cells slots) {x v : Int32} {y : Int32} (hd : decode c.code pc = .ok (.iushr, 1)) (hv : (x.toUInt32 >>> (y &&& 31).toUInt32).toInt32 = v) (hp : pc + 1 = pc') (K : Gl p.tables e below P T m pc' L (.int v :: S)) : Gl p.tables e below P T m pc L (.int y :: .int x :: S) := by
  subst hp; exact Gl.st (fun _ q => XS.iushr W.1.here W.2.1 rfl hd rfl (by rw [hv]; exact q)) K
theorem o_i2c (W : Wk p l e R s m args below meth c own Z hb ws I T h locs cells slots) {x : Int32} {v : Int32} (hd : decode c.code pc = .ok (.i2c, 1)) (hv : x.toUInt32.toUInt16.toUInt32.toInt32 = v) (hp : pc + 1 = pc') (K : Gl p.tables e below P T m pc' L (.int v :: S)) : Gl p.tables e below P T m pc L (.int x :: S) := by
  subst hp; exact Gl.st (fun _ q => XS.i2c W.1.here W.2.1 rfl hd rfl (by rw [hv]; exact q)) K
theorem o_lcmp (W : Wk p l e R s m args below meth c own Z hb ws I T h locs cells slots) {x y : Int64} {v : Int32} (hd : decode c.code pc = .ok (.lcmp, 1)) (hv : lcmpW x y = v) (hp : pc + 1 = pc') (K : Gl p.tables e below P T m pc' L (.int v :: S)) : Gl p.tables e below P T m pc L (.long y :: .long x :: S) := by
  subst hp; exact Gl.st (fun _ q => XS.lcmp W.1.here W.2.1 rfl hd rfl (by rw [show (if x > y then (1 : Int32) else if x = y then 0 else -1) = v from hv]; exact q)) K
theorem o_dup (W : Wk p l e R s m args below meth c own Z hb ws I T h locs cells slots) {x : Value} (hd : decode c.code pc = .ok (.dup, 1)) (hc : x.category = 1) (hp : pc + 1 = pc') (K : Gl p.tables e below P T m pc' L (x :: x :: S)) : Gl p.tables e below P T m pc L (x :: S) := by
  subst hp; exact Gl.st (fun _ q => XS.dup W.1.here W.2.1 rfl hd rfl hc q) K
theorem o_goto (W : Wk p l e R s m args below meth c own Z hb ws I T h locs cells slots) {o : Int} (hd : decode c.code pc = .ok (.goto o, 3)) (ho : 0 ≤ (pc : Int) + o) (hp : ((pc : Int) + o).toNat = pc') (K : Gl p.tables e below P T m pc' L S) : Gl p.tables e below P T m pc L S := by
  exact Gl.st (fun _ q => XS.goto W.1.here W.2.1 rfl (pc0 := pc) rfl hd ho hp q) K
theorem o_ifY (W : Wk p l e R s m args below meth c own Z hb ws I T h locs cells slots) {o : Int} {cd : ClassFile.Cond} {x : Int32} (hd : decode c.code pc = .ok (.ifCond cd o, 3)) (hc : ifCond.holds cd x = true) (ho : 0 ≤ (pc : Int) + o) (hp : ((pc : Int) + o).toNat = pc') (K : Gl p.tables e below P T m pc' L S) : Gl p.tables e below P T m pc L (.int x :: S) := by
  exact Gl.st (fun _ q => XS.ifYes W.1.here W.2.1 rfl (pc0 := pc) rfl hd rfl hc ho hp q) K
theorem o_ifN (W : Wk p l e R s m args below meth c own Z hb ws I T h locs cells slots) {o : Int} {cd : ClassFile.Cond} {x : Int32} (hd : decode c.code pc = .ok (.ifCond cd o, 3)) (hc : ifCond.holds cd x = false) (hp : pc + 3 = pc') (K : Gl p.tables e below P T m pc' L S) : Gl p.tables e below P T m pc L (.int x :: S) := by
  subst hp; exact Gl.st (fun _ q => XS.ifNo W.1.here W.2.1 rfl hd rfl hc q) K
theorem o_icmpY (W : Wk p l e R s m args below meth c own Z hb ws I T h locs cells slots) {o : Int} {cd : ClassFile.Cond} {x y : Int32} (hd : decode c.code pc = .ok (.if_icmp cd o, 3)) (hc : if_icmp.holds cd x y = true) (ho : 0 ≤ (pc : Int) + o) (hp : ((pc : Int) + o).toNat = pc') (K : Gl p.tables e below P T m pc' L S) : Gl p.tables e below P T m pc L (.int y :: .int x :: S) := by
  exact Gl.st (fun _ q => XS.icmpYes W.1.here W.2.1 rfl (pc0 := pc) rfl hd rfl hc ho hp q) K
theorem o_icmpN (W : Wk p l e R s m args below meth c own Z hb ws I T h locs cells slots) {o : Int} {cd : ClassFile.Cond} {x y : Int32} (hd : decode c.code pc = .ok (.if_icmp cd o, 3)) (hc : if_icmp.holds cd x y = false) (hp : pc + 3 = pc') (K : Gl p.tables e below P T m pc' L S) : Gl p.tables e below P T m pc L (.int y :: .int x :: S) := by
  subst hp; exact Gl.st (fun _ q => XS.icmpNo W.1.here W.2.1 rfl hd rfl hc q) K
theorem o_ifnonnullN (W : Wk p l e R s m args below meth c own Z hb ws I T h locs cells slots) {o : Int} (hd : decode c.code pc = .ok (.ifnonnull o, 3)) (hp : pc + 3 = pc') (K : Gl p.tables e below P T m pc' L S) : Gl p.tables e below P T m pc L (.null :: S) := by
  subst hp; exact Gl.st (fun _ q => XS.ifnonnullNo W.1.here W.2.1 rfl hd rfl q) K
theorem o_acmpN (W : Wk p l e R s m args below meth c own Z hb ws I T h locs cells slots) {o : Int} {cd : ClassFile.ACond} {x y : Value} (hd : decode c.code pc = .ok (.if_acmp cd o, 3)) (h1 : x.isRef = true) (h2 : y.isRef = true) (hc : XT.acmp cd x y = false) (hp : pc + 3 = pc') (K : Gl p.tables e below P T m pc' L S) : Gl p.tables e below P T m pc L (y :: x :: S) := by
  subst hp; exact Gl.st (fun _ q => XT.acmpNo W.1.here W.2.1 rfl hd rfl h1 h2 hc q) K
theorem o_getF (W : Wk p l e R s m args below meth c own Z hb ws I T h locs cells slots) {R0 O n d : String} {index : Nat} (w : (Cond.fieldLink own index R0 n d).before a0 Z = true) (via : Via Z R0 O n d) {a : Addr} {v : Value} (F : Fld Z h a O n d v) (hd : decode c.code pc = .ok (.getfield index, 3)) (hp : pc + 3 = pc')
    (K : ∀ T', Wk p l e R s m args below meth c own Z hb ws I T' h locs cells slots → Gl p.tables e below P T' m pc' L (v :: S)) : Gl p.tables e below P T m pc L (.ref a :: S) := by
  subst hp
  obtain ⟨X, hx, eT, hZ, ho, r⟩ := W
  obtain ⟨T', X', e', st⟩ := getF X hx hZ ho (host := "") (Or.inl w) via eT F (g := mkF m pc L (.ref a :: S)) rfl rfl hd
  exact Gl.st st (K T' ⟨X', hx, e', hZ, ho, r⟩)
theorem o_getS (W : Wk p l e R s m args below meth c own Z hb ws I T h locs cells slots) {R0 O n d : String} {index : Nat} (w : (Cond.fieldLink own index R0 n d).before a0 Z = true) (via : Via Z R0 O n d) {v : Value} (F : Sta Z h O n d v) (hd : decode c.code pc = .ok (.getstatic index, 3)) (hp : pc + 3 = pc')
    (K : ∀ T', Wk p l e R s m args below meth c own Z hb ws I T' h locs cells slots → Gl p.tables e below P T' m pc' L (v :: S)) : Gl p.tables e below P T m pc L S := by
  subst hp
  obtain ⟨X, hx, eT, hZ, ho, r⟩ := W
  obtain ⟨T', X', e', st⟩ := getS (host := "") X hx hZ ho w via eT F (g := mkF m pc L S) rfl hd
  exact Gl.st st (K T' ⟨X', hx, e', hZ, ho, r⟩)
theorem o_putF (W : Wk p l e R s m args below meth c own Z hb ws I T h locs cells slots) {R0 O n d C : String} {index kk : Nat} {ty : FieldType} (w : (Cond.fieldLink own index R0 n d).before a0 Z = true) (via : Via Z R0 O n d) {a : Addr} {v v' old : Value} (F : Fld Z h a O n d old) (E : Exa Z h a C)
    (Lz : (Cond.lays C O n d).before a0 Z = true ∨ ((Cond.laysFinal C O n d).before a0 Z = true ∧ own = O ∧ meth.name = "<init>")) (wi : (Cond.instantiable C kk).before a0 Z = true) (hty : parseFieldDescriptor d = some ty) (hn : narrow ty v = v') (hf : fits ty v' = true)
    (g1 : Z.heap.size ≤ a) (g2 : a ∈ ws ∨ hb.size ≤ a) (hI : ∀ h', Wr h h' a (Jvm.RoadKit.slotOf Z O n d) v' → I h') (hd : decode c.code pc = .ok (.putfield index, 3)) (hp : pc + 3 = pc')
    (K : ∀ T' h' locs', Wk p l e R s m args below meth c own Z hb ws I T' h' locs' cells slots → Wr h h' a (Jvm.RoadKit.slotOf Z O n d) v' → Gl p.tables e below P T' m pc' L S) : Gl p.tables e below P T m pc L (v :: .ref a :: S) := by
  subst hp
  obtain ⟨X, hx, eT, hZ, ho, o, fr, kp, i⟩ := W
  obtain ⟨T', h', X', e', Wr', st⟩ := putFN X hx hZ ho w via eT F E Lz wi hty hn hf (g := mkF m pc L (v :: .ref a :: S)) rfl rfl hd
  exact Gl.st st (K T' h' _ ⟨X', hx, e', hZ, ho, o.wr Wr' g1, Fr.snoc X' fr g1, kp.wr Wr' g2, hI _ Wr'⟩ Wr')
theorem o_new (W : Wk p l e R s m args below meth c own Z hb ws I T h locs cells slots) {C : String} {index n : Nat} (w : (Cond.classLink own index C).before a0 Z = true) (wi : (Cond.instantiable C n).before a0 Z = true) (wz : (Cond.initialized C).before a0 Z = true) (hI : ∀ h', Ext h h' → I h')
    (hd : decode c.code pc = .ok (.new index, 3)) (hp : pc + 3 = pc') (hc' : cells + 1 = cells') (hs' : slots + n = slots') (hc : cells' ≤ R.cells) (hs : slots' ≤ R.slots)
    (K : ∀ b T' h', Wk p l e R s m args below meth c own Z hb ws I T' h' locs cells' slots' → Ext h h' → h.size ≤ b → Z.heap.size ≤ b → hb.size ≤ b → Exa Z h' b C → (∀ {O nm d : String} {ty : FieldType}, Laid Z a0 C O nm d → parseFieldDescriptor d = some ty → Fld Z h' b O nm d (defaultValue ty)) → Gl p.tables e below P T' m pc' L (.ref b :: S)) : Gl p.tables e below P T m pc L S := by
  subst hp hc' hs'
  obtain ⟨X, hx, eT, hZ, ho, o, fr, kp, i⟩ := W
  obtain ⟨T', h', X', e', E, A, D, -, st⟩ := newO X hx hZ ho w wi wz eT (g := mkF m pc L S) rfl hd hc hs
  exact Gl.st st (K _ T' h' ⟨X', hx, e', hZ, ho, o.ext E, fr, kp.ext E, hI _ E⟩ E (Nat.le_refl _) o.2.1 kp.1 A D)
theorem o_newP (W : Wk p l e R s m args below meth c own Z hb ws I T h locs cells slots) {aty : ArrayType} (w : (Cond.arrayClass (newarray.typeOf aty)).before a0 Z = true) (hI : ∀ h', Ext h h' → I h') {n : Int32} (hn : ¬ n < 0) {cap : Nat} (hcap : n.toNatClampNeg ≤ cap) (hb8 : cap * 8 ≤ 536870912)
    (hd : decode c.code pc = .ok (.newarray aty, 2)) (hp : pc + 2 = pc') (hc' : cells + 1 = cells') (hs' : slots + cap = slots') (hc : cells' ≤ R.cells) (hs : slots' ≤ R.slots) {vs : List Value} {dv : Value} (hdv : defaultValue (newarray.typeOf aty) = dv) (hv : vs = List.replicate vs.length dv)
    (K : ∀ b T' h' k, Wk p l e R s m args below meth c own Z hb ws I T' h' locs cells' slots' → Ext h h' → h.size ≤ b → Z.heap.size ≤ b → hb.size ≤ b → Arv Z h' b k (newarray.typeOf aty) n vs dv → Gl p.tables e below P T' m pc' L (.ref b :: S)) : Gl p.tables e below P T m pc L (.int n :: S) := by
  subst hp hc' hs' hdv
  obtain ⟨X, hx, eT, hZ, ho, o, fr, kp, i⟩ := W
  obtain ⟨T', h', k, X', e', E, A, st⟩ := newP X hx hZ w eT (g := mkF m pc L (.int n :: S)) rfl hd rfl hn hcap hb8 hc hs
  exact Gl.st st (K _ T' h' k ⟨X', hx, e', hZ, ho, o.ext E, fr, kp.ext E, hI _ E⟩ E (Nat.le_refl _) o.2.1 kp.1 ((Arv.new A hn).pad (by rw [hv]; exact pad_rep [] _ _)))
theorem o_len (W : Wk p l e R s m args below meth c own Z hb ws I T h locs cells slots) {a : Addr} {k : ClassId} {ty : FieldType} {z : Int32} {vs : List Value} {dv : Value} (V : Arv Z h a k ty z vs dv) (hd : decode c.code pc = .ok (.arraylength, 1)) (hp : pc + 1 = pc')
    (K : Gl p.tables e below P T m pc' L (.int z :: S)) : Gl p.tables e below P T m pc L (.ref a :: S) := by
  subst hp
  obtain ⟨X, hx, eT, hZ, ho, r⟩ := W
  obtain ⟨cl, A, -, Sz, N, -⟩ := V
  refine Gl.st (X.arraylength hx (by rw [eT]; exact A.1) (State.isArrayOf_alike hZ.alike A.2.1) (g := mkF m pc L (.ref a :: S)) rfl rfl hd) ?_
  rw [len_of Sz N]; exact K
theorem own_inb {z j : Int32} {c : Cell} {i : Nat} (Sz : c.slots.size = z.toNatClampNeg) (hj : j.toNatClampNeg = i) (hj0 : ¬ j < 0) (hi : i < z.toNatClampNeg) : ¬ (j < 0 ∨ c.slots.size ≤ j.toNatClampNeg) := by
  rintro (q | q)
  · exact hj0 q
  · rw [Sz, hj] at q; omega
theorem o_stC (W : Wk p l e R s m args below meth c own Z hb ws I T h locs cells slots) {a : Addr} {k : ClassId} {z : Int32} {vs vs' : List Value} {dv : Value} (V : Arv Z h a k .char z vs dv) {j x x' : Int32} {i : Nat} (hj : j.toNatClampNeg = i) (hj0 : ¬ j < 0) (hi : i < z.toNatClampNeg) (hi' : i < vs.length) (hx' : nar .char x = x') (hv : vs.set i (.int x') = vs')
    (g1 : Z.heap.size ≤ a) (g2 : a ∈ ws ∨ hb.size ≤ a) (hI : ∀ h', Wr h h' a i (.int x') → I h') (hd : decode c.code pc = .ok (.castore, 1)) (hp : pc + 1 = pc')
    (K : ∀ T' h' locs', Wk p l e R s m args below meth c own Z hb ws I T' h' locs' cells slots → Wr h h' a i (.int x') → Arv Z h' a k .char z vs' dv → Gl p.tables e below P T' m pc' L S) : Gl p.tables e below P T m pc L (.int x :: .int j :: .ref a :: S) := by
  subst hp hx' hv
  obtain ⟨X, hx, eT, hZ, ho, o, fr, kp, i'⟩ := W
  obtain ⟨cl, A, q, Sz, N, H, G⟩ := V
  obtain ⟨T', h', X', e', Wr', st⟩ := stC X hx hZ eT A (own_inb Sz hj hj0 hi) (g := mkF m pc L (.int x :: .int j :: .ref a :: S)) rfl rfl hd
  have V' := Arv.set A q Sz N H G (fits_nar_char x) Wr' i hj hi'
  subst hj
  exact Gl.st st (K T' h' _ ⟨X', hx, e', hZ, ho, o.wr Wr' g1, Fr.snoc X' fr g1, kp.wr Wr' g2, hI _ Wr'⟩ Wr' V')
theorem o_initO (W : Wk p l e R s m args below meth c own Z hb ws I T h locs cells slots) {idx : Nat} (w1 : (Cond.methodLink own idx Lib.objectInit).before a0 Z = true) (w2 : (Cond.instanceMethod Lib.objectInit).before a0 Z = true) (w3 : (Cond.code Lib.objectInit ⟨#[0xb1]⟩ 1 none).before a0 Z = true) {a : Addr} (hml : L.size = c.maxLocals)
    (hd : decode c.code pc = .ok (.invokespecial idx, 3)) (hp : pc + 3 = pc') (hf : 1 ≤ R.frames) (Wd : Nat) (hW : 2 * 0 + (S.map fun v => v.category).sum ≤ Wd) (hl : Wd + 12 ≤ R.locals)
    (K : ∀ T', Wk p l e R s m args below meth c own Z hb ws I T' h locs cells slots → Gl p.tables e below P T' m pc' L S) : Gl p.tables e below P T m pc L (.ref a :: S) := by
  subst hp
  obtain ⟨X, hx, eT, hZ, ho, r⟩ := W
  obtain ⟨T', X', e', st⟩ := initO X hx hZ ho w1 w2 w3 eT (g := mkF m pc L (.ref a :: S)) rfl hml rfl hd hf hW hl
  exact Gl.st st (K T' ⟨X', hx, e', hZ, ho, r⟩)
abbrev BackQ (l : Launch) (R : Room) (p : Program) (e : Env) (below : List Frame) (s : State) (args : Array Value) (y : MethodName) (len Wd : Nat) (as' : Array Value) (h : Heap) (kc ks : Nat) (Q : Option Value → Heap → List Loc → Prop) : Prop :=
  Back l R p e below s args y len Wd (fun A a => a = as' ∧ A.U.heap = h ∧ A.cells + kc ≤ R.cells ∧ A.slots + ks ≤ R.slots) (fun A _ v B => ∃ L, Q v B.U.heap L ∧ B.locs = A.locs ++ L ∧ B.cells = A.cells + kc ∧ B.slots = A.slots + ks)
theorem o_after (W : Wk p l e R s m args below meth c own Z hb ws I T h locs cells slots) {B : Pt} {v : Option Value} {kc ks : Nat} {Q : Option Value → Heap → List Loc → Prop} {wy : List Addr} (X' : Stand p l e R s m args below meth c B.U B.locs B.cells B.slots) (hpost : ∃ L, Q v B.U.heap L ∧ B.locs = locs ++ L ∧ B.cells = cells + kc ∧ B.slots = slots + ks)
    (hq : ∀ v hh L, Q v hh L → Fr Z.heap.size L ∧ Keep h hh wy) (hg : ∀ x ∈ wy, Z.heap.size ≤ x ∧ (x ∈ ws ∨ hb.size ≤ x)) (hI : ∀ h', Keep h h' wy → I h') :
    ∃ L, Q v B.U.heap L ∧ Keep h B.U.heap wy ∧ Wk p l e R s m args below meth c own Z hb ws I B.U B.U.heap (locs ++ L) (cells + kc) (slots + ks) := by
  obtain ⟨X, hx, eT, hZ, ho, o, fr, kp, i⟩ := W
  obtain ⟨⟨U, lo, kc', ks'⟩, rfl⟩ : ∃ B', B' = B := ⟨_, rfl⟩
  obtain ⟨L', q, e1, e2, e3⟩ := hpost
  have e1 : lo = locs ++ L' := e1
  have e2 : kc' = cells + kc := e2
  have e3 : ks' = slots + ks := e3
  subst e1 e2 e3
  obtain ⟨f, k⟩ := hq _ _ _ q
  exact ⟨L', q, k, X', hx, rfl, hZ, ho, o.keep k (fun x hx => (hg x hx).1), fr.app f, kp.trans k (fun x hx => (hg x hx).2), hI _ k⟩
theorem o_static (W : Wk p l e R s m args below meth c own Z hb ws I T h locs cells slots) {index : Nat} {y : MethodName} {bytes : ByteArray} {maxL : Nat} {ret : Option FieldType} (w1 : (Cond.methodLink own index y).before a0 Z = true) (w2 : (Cond.static y).before a0 Z = true) (w3 : (Cond.initialized y.cls).before a0 Z = true) (w4 : (Cond.code y bytes maxL ret).before a0 Z = true)
    (hy : y.cls ≠ "java/lang/invoke/MethodHandle" ∧ y.cls ≠ "java/lang/invoke/VarHandle") {Wd kc ks : Nat} {Q : Option Value → Heap → List Loc → Prop} {argsL : List Value} (B : BackQ l R p e below s args y 3 Wd argsL.toArray h kc ks Q) (hml : L.size = c.maxLocals)
    (hlen : ∀ sig, parseMethodDescriptor y.desc = some sig → argsL.length = sig.parameters.length) {S0 : List Value} (hS : S0 = argsL.reverse ++ S) (hW : 2 * 0 + (S.map fun v => v.category).sum ≤ Wd) (hd : decode c.code pc = .ok (.invokestatic index, 3)) (hp : pc + 3 = pc')
    (hc' : cells + kc = cells') (hs' : slots + ks = slots') (hc : cells' ≤ R.cells) (hs : slots' ≤ R.slots) {wy : List Addr} (hq : ∀ v hh L, Q v hh L → Fr Z.heap.size L ∧ Keep h hh wy) (hg : ∀ x ∈ wy, Z.heap.size ≤ x ∧ (x ∈ ws ∨ hb.size ≤ x)) (hI : ∀ h', Keep h h' wy → I h')
    (K : ∀ v T' h' Lc, Wk p l e R s m args below meth c own Z hb ws I T' h' (locs ++ Lc) cells' slots' → Keep h h' wy → Q v h' Lc → Gl p.tables e below P T' m pc' L (v.toList ++ S)) : Gl p.tables e below P T m pc L S0 := by
  subst hp hc' hs' hS
  obtain ⟨v, vm₁, B', -, X', hpost, st⟩ := Jvm.LawKit.callS W.1 W.2.1 W.2.2.2.2.1 (mvT W.2.2.2.1 w1) (mvT W.2.2.2.1 w2) (mvT W.2.2.2.1 w3) (mvT W.2.2.2.1 w4) hy B (g := mkF m pc L (argsL.reverse ++ S)) rfl hml hlen rfl hW hd (fun _ _ => ⟨rfl, W.2.2.1, hc, hs⟩)
  obtain ⟨Lc, q, k, W'⟩ := o_after W X' hpost hq hg hI
  exact Gl.st st (K v _ _ Lc W' k q)
theorem o_special (W : Wk p l e R s m args below meth c own Z hb ws I T h locs cells slots) {index : Nat} {y : MethodName} {bytes : ByteArray} {maxL : Nat} (hy1 : y.name = "<init>") (w1 : (Cond.methodLink own index y).before a0 Z = true) (w2 : (Cond.instanceMethod y).before a0 Z = true) (w4 : (Cond.code y bytes maxL none).before a0 Z = true)
    (hy : y.cls ≠ "java/lang/invoke/MethodHandle" ∧ y.cls ≠ "java/lang/invoke/VarHandle") {Wd kc ks : Nat} {Q : Option Value → Heap → List Loc → Prop} {a : Addr} {argsL : List Value} (B : BackQ l R p e below s args y 3 Wd (.ref a :: argsL).toArray h kc ks Q) (hml : L.size = c.maxLocals)
    (hlen : ∀ sig, parseMethodDescriptor y.desc = some sig → argsL.length = sig.parameters.length) {S0 : List Value} (hS : S0 = argsL.reverse ++ .ref a :: S) (hW : 2 * 0 + (S.map fun v => v.category).sum ≤ Wd) (hd : decode c.code pc = .ok (.invokespecial index, 3)) (hp : pc + 3 = pc')
    (hc' : cells + kc = cells') (hs' : slots + ks = slots') (hc : cells' ≤ R.cells) (hs : slots' ≤ R.slots) {wy : List Addr} (hq : ∀ v hh L, Q v hh L → Fr Z.heap.size L ∧ Keep h hh wy) (hg : ∀ x ∈ wy, Z.heap.size ≤ x ∧ (x ∈ ws ∨ hb.size ≤ x)) (hI : ∀ h', Keep h h' wy → I h')
    (K : ∀ v T' h' Lc, Wk p l e R s m args below meth c own Z hb ws I T' h' (locs ++ Lc) cells' slots' → Keep h h' wy → Q v h' Lc → Gl p.tables e below P T' m pc' L (v.toList ++ S)) : Gl p.tables e below P T m pc L S0 := by
  subst hp hc' hs' hS
  obtain ⟨v, vm₁, B', -, X', hpost, st⟩ := W.1.specialBack W.2.1 hy1 W.2.2.2.2.1 (mvT W.2.2.2.1 w1) (mvT W.2.2.2.1 w2) (mvT W.2.2.2.1 w4) hy B (g := mkF m pc L (argsL.reverse ++ .ref a :: S)) rfl hml (Steps.refl _) hlen rfl hW hd (fun _ _ => ⟨rfl, W.2.2.1, hc, hs⟩)
  obtain ⟨Lc, q, k, W'⟩ := o_after W X' hpost hq hg hI
  exact Gl.tr st (K v _ _ Lc W' k q)
theorem o_virtual (W : Wk p l e R s m args below meth c own Z hb ws I T h locs cells slots) {index : Nat} {C : String} {y z : MethodName} (w1 : (Cond.methodLink own index y).before a0 Z = true) (w2 : (Cond.declares y).before a0 Z = true) (hnf : NotFace s y) (w3 : (Cond.selects C y z).before a0 Z = true) (w4 : (Cond.instanceMethod z).before a0 Z = true)
    (hy : y.cls ≠ "java/lang/invoke/MethodHandle" ∧ y.cls ≠ "java/lang/invoke/VarHandle") {Wd kc ks : Nat} {Q : Option Value → Heap → List Loc → Prop} {a : Addr} (E : Exa Z h a C) {argsL : List Value} (B : BackQ l R p e below s args z 3 Wd (.ref a :: argsL).toArray h kc ks Q) (hml : L.size = c.maxLocals)
    (hlen : ∀ sig, parseMethodDescriptor y.desc = some sig → argsL.length = sig.parameters.length) {S0 : List Value} (hS : S0 = argsL.reverse ++ .ref a :: S) (hW : 2 * 0 + (S.map fun v => v.category).sum ≤ Wd) (hd : decode c.code pc = .ok (.invokevirtual index, 3)) (hp : pc + 3 = pc')
    (hc' : cells + kc = cells') (hs' : slots + ks = slots') (hc : cells' ≤ R.cells) (hs : slots' ≤ R.slots) {wy : List Addr} (hq : ∀ v hh L, Q v hh L → Fr Z.heap.size L ∧ Keep h hh wy) (hg : ∀ x ∈ wy, Z.heap.size ≤ x ∧ (x ∈ ws ∨ hb.size ≤ x)) (hI : ∀ h', Keep h h' wy → I h')
    (K : ∀ v T' h' Lc, Wk p l e R s m args below meth c own Z hb ws I T' h' (locs ++ Lc) cells' slots' → Keep h h' wy → Q v h' Lc → Gl p.tables e below P T' m pc' L (v.toList ++ S)) : Gl p.tables e below P T m pc L S0 := by
  subst hp hc' hs' hS
  obtain ⟨cB, kB, q1, q2, q3⟩ := isOf W.2.2.2.1 W.2.2.1 E
  obtain ⟨v, vm₁, B', -, X', hpost, st⟩ := W.1.virtualBack W.2.1 W.2.2.2.2.1 (mvT W.2.2.2.1 w1) (mvT W.2.2.2.1 w2) hnf (mvT W.2.2.2.1 w3) (mvT W.2.2.2.1 w4) hy B q1 q3 (g := mkF m pc L (argsL.reverse ++ .ref a :: S)) rfl hml (Steps.refl _) hlen rfl hW hd (fun _ _ => ⟨rfl, W.2.2.1, hc, hs⟩)
  obtain ⟨Lc, q, k, W'⟩ := o_after W X' hpost hq hg hI
  exact Gl.tr st (K v _ _ Lc W' k q)
theorem o_nf (W : Wk p l e R s m args below meth c own Z hb ws I T h locs cells slots) {C : String} {y z : MethodName} (hyz : y = z) (w : (Cond.selects C y z).before a0 Z = true) : NotFace s y := by
  subst hyz
  exact notFace_of_selects (args := #[]) (mvT W.2.2.2.1 w)
def CtrN (l : Launch) (Z : State) (y : MethodName) (bytes : ByteArray) (maxL : Nat) (ret : Option FieldType) (xs : List Jvm.Cond) (rm : Room) (as' : Array Value) (h0 : Heap) (wy : List Addr) (Q : Option Value → Heap → Prop) : Prop :=
  MetFree l y (head1 (Jvm.Cond.code y bytes maxL ret :: xs) rm) (fun a U => a = as' ∧ Z.Warmed39 U.vm ∧ U.heap = h0) (fun _ _ _ _ _ => True) (fun _ U o U' => ∃ v L, o = .returned v ∧ (Fr Z.heap.size L ∧ Keep h0 U'.heap wy ∧ Q v U'.heap) ∧ FrameEnd U o U' L rm.cells rm.slots)
def PN (s : State) (Z : State) (below : List Frame) (h0 : Heap) (wy : List Addr) (rm : Room) (Q : Option Value → Heap → Prop) (s₂ : State) (o : Outcome) : Prop := s₂.status = .running ∧ Ended s₂ below o ∧ ∃ v L, o = .returned v ∧ (Fr Z.heap.size L ∧ Keep h0 s₂.heap wy ∧ Q v s₂.heap) ∧ FrameEnd s o s₂ L rm.cells rm.slots
theorem CtrN.intro {y : MethodName} {bytes : ByteArray} {maxL : Nat} {ret : Option FieldType} {xs : List Jvm.Cond} {rm : Room} {as' : Array Value} {h0 : Heap} {wy : List Addr} {Q : Option Value → Heap → Prop} {L0 : Array Slot} (hx : plainFor y = true) (O : Old Z Z.heap.size h0) (hef : ∀ m, entryFrame m as' maxL = mkF m 0 L0 [])
    (body : ∀ (p : Program) (e : Env) (s : State) (m : MethodId) (below : List Frame) (meth : Method) (c : Code) (T : State), c.code = bytes → c.maxLocals = maxL → meth.sig.returnType = ret → meth.locks = false → meth.name = y.name → Wk p l e rm s m as' below meth c y.cls Z h0 wy (fun _ => True) T h0 [] 0 0 → Gl p.tables e below (PN s Z below h0 wy rm Q) T m 0 L0 []) :
    CtrN l Z y bytes maxL ret xs rm as' h0 wy Q := by
  refine MetFree.of_bodySF hx hisR ?_
  intro p e s m args below meth c s₁ Bd hml hP hK
  obtain ⟨rfl, hZ, hh⟩ := hP
  have e0 : s₁.heap = h0 := by rw [← hh, Bd.state]; rfl
  obtain ⟨s2, o, g1, g2, g3, g4⟩ := body p e s m below meth c s₁ Bd.bytes hml Bd.returns Bd.notSynchronized (name_of_methodNamed Bd.named Bd.method).1 ⟨Stand.of_body Bd, Bd.exec, e0, hZ, findClass_of_methodNamed Bd.named, O, Fr.nil _, Keep.refl _ _, trivial⟩
  exact ⟨s2, o, castTop (hef m) g1, g2, g3, g4⟩
theorem CtrN.back {y : MethodName} {bytes : ByteArray} {maxL : Nat} {ret : Option FieldType} {rm : Room} {as' : Array Value} {wy : List Addr} {Q : Option Value → Heap → Prop} {len Wd : Nat} (W : Wk p l e R s m args below meth c own Z hb ws I T h locs cells slots) (C : CtrN l Z y bytes maxL ret [] rm as' h wy Q) (wc : (Cond.code y bytes maxL ret).before a0 Z = true) (wz : (Cond.initialized y.cls).before a0 Z = true)
    (hf : rm.frames + 1 ≤ R.frames) (hl : Wd + (maxL + 11) + rm.locals ≤ R.locals) : BackQ l R p e below s args y len Wd as' h rm.cells rm.slots (fun v hh L => Fr Z.heap.size L ∧ Keep h hh wy ∧ Q v hh) :=
  backOf (Q := fun v hh L => Fr Z.heap.size L ∧ Keep h hh wy ∧ Q v hh) C W.2.2.2.1 wc wz hf hl
theorem o_leaveN {y0 : List Addr} {Q : Option Value → Heap → Prop} {rm : Room} (W : Wk p l e rm s m args below meth c own Z hb ws I T h locs cells slots) (hlk : meth.locks = false) {v : Option Value} (hv : meth.sig.returnType = none → v = none) (hq : Q v h) (hc : cells ≤ rm.cells) (hs : slots ≤ rm.slots) (st : ∀ fs, (∀ (f : JFrame) (acts : List Action), f.method = m → f.locked = none → f.entered = [] → (doReturn e (T.setTop f) acts v).1 = T.setFrames fs) → Steps p.tables e below (T.setTop (mkF m pc L S)) (T.setFrames fs)) :
    Gl p.tables e below (PN s Z below hb ws rm Q) T m pc L S := by
  obtain ⟨X, hx, eT, hZ, ho, o, fr, kp, i⟩ := W
  obtain ⟨fs, hr, hrun, hended, hW, hsame⟩ := X.leave (v := v) hv
  have eh : (T.setFrames fs).heap = h := eT
  exact ⟨_, _, st fs hr, hrun, hended, v, locs, rfl, ⟨fr, by rw [eh]; exact kp, by rw [eh]; exact hq⟩, ⟨_, rfl⟩, hW, hsame.mono hc hs⟩
theorem o_retN (W : Wk p l e R s m args below meth c own Z hb ws I T h locs cells slots) (hlk : meth.locks = false) {Q : Option Value → Heap → Prop} {z z' : Int32} {t : FieldType} (hret : meth.sig.returnType = some t) (ht : t = .boolean ∨ t = .byte ∨ t = .char ∨ t = .short) (hz : nar t z = z') (hd : decode c.code pc = .ok (.ireturn, 1)) (hc : cells ≤ R.cells) (hs : slots ≤ R.slots) (hq : Q (some (.int z')) h) : Gl p.tables e below (PN s Z below hb ws R Q) T m pc L (.int z :: S) := by
  subst hz
  exact o_leaveN (y0 := []) W hlk (fun q => by rw [hret] at q; cases q) hq hc hs fun fs hr => retN W.1 W.2.1 hret ht hd hr
theorem o_retJ (W : Wk p l e R s m args below meth c own Z hb ws I T h locs cells slots) (hlk : meth.locks = false) {Q : Option Value → Heap → Prop} {z : Int64} (hret : meth.sig.returnType = some .long) (hd : decode c.code pc = .ok (.lreturn, 1)) (hc : cells ≤ R.cells) (hs : slots ≤ R.slots) (hq : Q (some (.long z)) h) : Gl p.tables e below (PN s Z below hb ws R Q) T m pc L (.long z :: S) :=
  o_leaveN (y0 := []) W hlk (fun q => by rw [hret] at q; cases q) hq hc hs fun fs hr => retOut W.1 W.2.1 hret rfl (Or.inr (Or.inl ⟨rfl, rfl, _, rfl⟩)) hd hr
theorem o_retA (W : Wk p l e R s m args below meth c own Z hb ws I T h locs cells slots) (hlk : meth.locks = false) {Q : Option Value → Heap → Prop} {t : FieldType} {v : Value} (hret : meth.sig.returnType = some t) (ht : t.isReference = true) (hv : v.isRef = true) (hd : decode c.code pc = .ok (.areturn, 1)) (hc : cells ≤ R.cells) (hs : slots ≤ R.slots) (hq : Q (some v) h) : Gl p.tables e below (PN s Z below hb ws R Q) T m pc L (v :: S) :=
  o_leaveN (y0 := []) W hlk (fun q => by rw [hret] at q; cases q) hq hc hs fun fs hr => retOut W.1 W.2.1 hret (by cases v <;> first | (cases hv; done) | (cases t <;> first | (cases ht; done) | rfl)) (Or.inr (Or.inr (Or.inr (Or.inr ⟨rfl, ht, hv⟩)))) hd hr
theorem o_ret0 (W : Wk p l e R s m args below meth c own Z hb ws I T h locs cells slots) (hlk : meth.locks = false) {Q : Option Value → Heap → Prop} (hret : meth.sig.returnType = none) (hd : decode c.code pc = .ok (.return_, 1)) (hc : cells ≤ R.cells) (hs : slots ≤ R.slots) (hq : Q none h) : Gl p.tables e below (PN s Z below hb ws R Q) T m pc L [] :=
  o_leaveN (y0 := []) W hlk (fun _ => rfl) hq hc hs fun fs hr => W.1.returnOut W.2.1 hret hd hr
theorem own_stE {args : Array Value} {C n d K : String} (h : (Cond.exactly (.static C n d) K).value args Z none Z [] = some true) (hi : (Cond.initializedFor C n d).before args Z = true ∨ ((Cond.initialized C).before args Z = true ∧ (Cond.laysStatic C n d).before args Z = true)) :
    ∃ a, (Term.static C n d).eval args Z none [] Z = some (.ref a) ∧ Sta Z Z.heap C n d (.ref a) ∧ Exa Z Z.heap a K := by
  obtain ⟨a, ev⟩ := exa_v h
  exact ⟨a, ev, Sta.start ev hi, Exa.start ev h⟩
end OwnPre

section OwnWide
def IW (s : State) (Z : State) (EL : List (String × Nat)) (V : Vm) (h : Heap) : Prop := (∃ k0, s.Since V k0 ∧ k0 ≤ h.size) ∧ CHv Z EL V h ∧ CHr Z EL s.vm s.heap V h
variable {p : Program} {l : Launch} {e : Env} {R : Room} {s : State} {m : MethodId} {args : Array Value} {below : List Frame} {meth : Method} {c : Code} {T : State} {locs : List Loc} {cells slots cells' slots' : Nat} {Z : State} {a0 : Array Value} {h h' hb : Heap} {ws : List Addr} {own : String} {P : State → Outcome → Prop} {pc pc' : Nat} {L L' : Array Slot} {S : List Value} {EL : List (String × Nat)} {V : Vm}
theorem IW.ext (E : Ext h h') (i : IW s Z EL V h) : IW s Z EL V h' := by
  obtain ⟨⟨k0, h1, h2⟩, h3, h4⟩ := i
  exact ⟨⟨k0, h1, Nat.le_trans h2 E.1⟩, h3.ext E, h4.trans (CHr.ext E h3)⟩
theorem IW.wr {a : Addr} {sl : Nat} {v : Value} (W : Wr h h' a sl v) (S : Safe Z EL V h a) (i : IW s Z EL V h) : IW s Z EL V h' := by
  obtain ⟨⟨k0, h1, h2⟩, h3, h4⟩ := i
  exact ⟨⟨k0, h1, by rw [W.size]; exact h2⟩, h3.wr W S, h4.trans (CHr.wr W S h3)⟩
theorem IW.keep {wy : List Addr} (K : Keep h h' wy) (hs : ∀ x ∈ wy, Safe Z EL V h x) (i : IW s Z EL V h) : IW s Z EL V h' := by
  obtain ⟨⟨k0, h1, h2⟩, h3, h4⟩ := i
  exact ⟨⟨k0, h1, Nat.le_trans h2 K.1⟩, h3.keep K hs, h4.trans (CHr.keep K hs h3)⟩
theorem own_safeS {vm : Vm} {x : Addr} (hal : Z.vm.Alike vm) (E : Exa Z h x "java/lang/String") (F : Fld Z h x "java/lang/String" "value" "[B" .null) : Safe Z EL vm h x := fun B => by
  obtain ⟨pp, -, u, a, -, q, -, G, rfl | rfl⟩ := B
  · obtain ⟨cS, ⟨⟨g1, -, -, ⟨c1, k1, i1, f1, -⟩, -, -, -, v1, -⟩, -⟩, -⟩ := G
    obtain ⟨cell, cf, k, i, f, h1, h2, h3, h4, h5, h6, h7⟩ := F
    cases h1.symm.trans g1
    obtain ⟨k3, e3, -⟩ := State.fieldFound?_setVm (s := Z) hal h2
    have e4 := (show (Wst Z vm h).fieldFound? _ _ _ = _ from e3).symm.trans f1
    simp only [Option.some.injEq, Prod.mk.injEq] at e4
    rw [e4.2.2.2] at h7
    rw [h7] at v1
    simp at v1
  · have hA : (Wst Z vm h).isArrayOf q.SA .byte := by
      obtain ⟨cS, ⟨⟨-, -, -, -, -, -, -, -, -, -, g11, -⟩, -⟩, -⟩ := G
      exact g11
    have hc := G.hd
    obtain ⟨cell, k, h1, h2, h3, -, -⟩ := E
    cases h1.symm.trans hc
    obtain ⟨cS, -, -, hB, -⟩ := G
    have hB' : vm.findClass "[B" = some q.SA.cls := hB
    rw [hal.findClass] at hB'
    obtain ⟨ka, a1, a2⟩ := Vm.findClass_spec hB'
    obtain ⟨kb, b1, b2⟩ := Vm.findClass_spec h2
    cases a1.symm.trans b1
    rw [a2] at b2
    exact absurd b2 (by decide)
def ELn (Z : State) (a0 : Array Value) (EL : List (String × Nat)) (n : Nat) : Prop := ∀ p ∈ EL, ∃ text : String, (Cond.stringLink p.1 p.2 text).before a0 Z = true ∧ (∀ c ∈ text.toList, c.toNat < 256) ∧ text.toList.length ≠ n
theorem ELn.nil {n : Nat} : ELn Z a0 [] n := fun _ hp => by cases hp
theorem ELn.cons {n index : Nat} {text : String} (w : (Cond.stringLink own index text).before a0 Z = true) (ht : ∀ c ∈ text.toList, c.toNat < 256) (hn : text.toList.length ≠ n) (E : ELn Z a0 EL n) : ELn Z a0 ((own, index) :: EL) n := fun p hp => by
  rcases List.mem_cons.mp hp with rfl | hp
  · exact ⟨text, w, ht, hn⟩
  · exact E p hp
theorem o_ldcR (W : Wk p l e R (s.setVm V) m args below meth c own Z hb ws (IW s Z EL V) T h locs cells slots) {text : String} {index : Nat} (w : (Cond.stringLink own index text).before a0 Z = true) (wS : ∀ a ∈ Bundle.stringAtoms, a.before a0 Z = true) (hEL : EW Z a0 EL) (hmem : (own, index) ∈ EL) (hd : decode c.code pc = .ok (.ldc index, 2)) (hp : pc + 2 = pc') {n : Nat} (hn : 4 * text.toList.length ≤ n) (hbig : n ≤ 536870912)
    (hc' : cells + 2 = cells') (hs' : slots + (n + 4) = slots') (hc : cells' ≤ R.cells) (hs : slots' ≤ R.slots) {vs : List Value} {z : Int32} (ht : (∀ c ∈ text.toList, c.toNat < 256) ∧ text.toList.map (fun c => Value.int (Jvm.Lit.byteI c.toNat.toUInt16)) = vs) (hz : ¬ z < 0) (hl : z.toNatClampNeg = vs.length)
    (K : ∀ a T' h' V' b k, Wk p l e R (s.setVm V') m args below meth c own Z hb ws (IW s Z EL V') T' h' locs cells' slots' → Ext h h' → CHr Z EL V h V' h' → Exa Z h' a "java/lang/String" → Fld Z h' a "java/lang/String" "coder" "B" (.int 0) → Fld Z h' a "java/lang/String" "value" "[B" (.ref b) → Arv Z h' b k .byte z vs (.int 0) → (∀ x, Safe Z EL V' h' x → x ≠ a ∧ x ≠ b) → Gl p.tables e below P T' m pc' L (.ref a :: S)) : Gl p.tables e below P T m pc L S := by
  subst hp hc' hs'
  obtain ⟨X, hx, eT, hZ, ho, o, fr, kp, ⟨k0, i1, i2⟩, i3, i4⟩ := W
  obtain ⟨a, T', h', k1, b, k, X', e', E, hS, hk, hW, hf, A1, A2, A3, A4, -, -, hC, -, hne, st⟩ := ldcCH X hx hZ ho w wS eT i1 i2 hEL hmem i3 ht hz hl (g := mkF m pc L S) rfl hd hn hbig hc hs
  exact Gl.st st (K a T' h' T'.vm b k ⟨X', hx, e', hW, hf, o.ext E, fr, kp.ext E, ⟨k1, hS, hk⟩, hC.1, i4.trans hC⟩ E hC A1 A2 A3 A4 hne)
def CtrW (l : Launch) (Z : State) (EL : List (String × Nat)) (y : MethodName) (bytes : ByteArray) (maxL : Nat) (ret : Option FieldType) (xs : List Jvm.Cond) (rm : Room) (as' : Array Value) (h0 : Heap) (wy : List Addr) (Q : Option Value → Heap → Prop) : Prop :=
  MetFree l y (head1 (Jvm.Cond.code y bytes maxL ret :: xs) rm) (fun a U => a = as' ∧ Z.Warmed39 U.vm ∧ U.heap = h0 ∧ CHv Z EL U.vm h0) (fun _ _ _ _ _ => True) (fun _ U o U' => ∃ v L, o = .returned v ∧ (Fr Z.heap.size L ∧ Keep h0 U'.heap wy ∧ Q v U'.heap) ∧ CHr Z EL U.vm U.heap U'.vm U'.heap ∧ ReturnedEndW U o U' L rm.cells rm.slots)
def PW (s : State) (Z : State) (EL : List (String × Nat)) (below : List Frame) (h0 : Heap) (wy : List Addr) (rm : Room) (Q : Option Value → Heap → Prop) (s₂ : State) (o : Outcome) : Prop := s₂.status = .running ∧ Ended s₂ below o ∧ ∃ v L, o = .returned v ∧ (Fr Z.heap.size L ∧ Keep h0 s₂.heap wy ∧ Q v s₂.heap) ∧ CHr Z EL s.vm s.heap s₂.vm s₂.heap ∧ ReturnedEndW s o s₂ L rm.cells rm.slots
theorem CtrW.intro {y : MethodName} {bytes : ByteArray} {maxL : Nat} {ret : Option FieldType} {xs : List Jvm.Cond} {rm : Room} {as' : Array Value} {h0 : Heap} {wy : List Addr} {Q : Option Value → Heap → Prop} {L0 : Array Slot} (hx : plainFor y = true) (O : Old Z Z.heap.size h0) (hef : ∀ m, entryFrame m as' maxL = mkF m 0 L0 [])
    (body : ∀ (p : Program) (e : Env) (s : State) (m : MethodId) (below : List Frame) (meth : Method) (c : Code) (T : State) (V : Vm), c.code = bytes → c.maxLocals = maxL → meth.sig.returnType = ret → meth.locks = false → meth.name = y.name → Wk p l e rm (s.setVm V) m as' below meth c y.cls Z h0 wy (IW s Z EL V) T h0 [] 0 0 → Gl p.tables e below (PW s Z EL below h0 wy rm Q) T m 0 L0 []) :
    CtrW l Z EL y bytes maxL ret xs rm as' h0 wy Q := by
  refine MetFree.of_bodySF hx hisR ?_
  intro p e s m args below meth c s₁ Bd hml hP hK
  obtain ⟨rfl, hZ, hh, hH⟩ := hP
  have e0 : s₁.heap = h0 := by rw [← hh, Bd.state]; rfl
  have hr : CHr Z EL s.vm s.heap s.vm h0 := by rw [hh]; exact CHr.refl hH
  have X : Stand p l e rm (s.setVm s.vm) m args below meth c s₁ [] 0 0 := Stand.of_body Bd
  obtain ⟨s2, o, g1, g2, g3, g4⟩ := body p e s m below meth c s₁ s.vm Bd.bytes hml Bd.returns Bd.notSynchronized (name_of_methodNamed Bd.named Bd.method).1 ⟨X, Bd.exec, e0, hZ, findClass_of_methodNamed Bd.named, O, Fr.nil _, Keep.refl _ _, ⟨0, (State.WarmedH.refl s).since _, Nat.zero_le _⟩, hH, hr⟩
  exact ⟨s2, o, castTop (hef m) g1, g2, g3, g4⟩
abbrev BackSQ (l : Launch) (R : Room) (p : Program) (e : Env) (below : List Frame) (s : State) (args : Array Value) (y : MethodName) (len Wd : Nat) (as' : Array Value) (h : Heap) (kc ks : Nat) (Q : Option Value → Heap → List Loc → Prop) (Z : State) (EL : List (String × Nat)) (V : Vm) : Prop :=
  BackS l R p e below s args y len Wd (fun A a => a = as' ∧ A.U.heap = h ∧ A.cells + kc ≤ R.cells ∧ A.slots + ks ≤ R.slots) (fun A _ v B => ∃ L, Q v B.U.heap L ∧ B.locs = A.locs ++ L ∧ B.cells = A.cells + kc ∧ B.slots = A.slots + ks ∧ CHr Z EL V h B.U.vm B.U.heap)
theorem CtrW.back {y : MethodName} {bytes : ByteArray} {maxL : Nat} {ret : Option FieldType} {rm : Room} {as' : Array Value} {wy : List Addr} {Q : Option Value → Heap → Prop} {len Wd : Nat} (W : Wk p l e R (s.setVm V) m args below meth c own Z hb ws (IW s Z EL V) T h locs cells slots) (C : CtrW l Z EL y bytes maxL ret [] rm as' h wy Q) (wc : (Cond.code y bytes maxL ret).before a0 Z = true) (wz : (Cond.initialized y.cls).before a0 Z = true)
    (hf : rm.frames + 1 ≤ R.frames) (hl : Wd + (maxL + 11) + rm.locals ≤ R.locals) (hEL : EW Z a0 EL) : BackSQ l R p e below (s.setVm V) args y len Wd as' h rm.cells rm.slots (fun v hh L => Fr Z.heap.size L ∧ Keep h hh wy ∧ Q v hh) Z EL V :=
  backOfSH (s := s) (Q := fun v hh L => Fr Z.heap.size L ∧ Keep h hh wy ∧ Q v hh) C W.2.2.2.1 wc wz hf hl hEL W.inv.2.1
theorem o_afterW (W : Wk p l e R (s.setVm V) m args below meth c own Z hb ws (IW s Z EL V) T h locs cells slots) {B : Pt} {v : Option Value} {kc ks : Nat} {Q : Option Value → Heap → List Loc → Prop} {wy : List Addr} (X' : Stand p l e R ((s.setVm V).setVm B.U.vm) m args below meth c B.U B.locs B.cells B.slots) (hS : (s.setVm V).Since B.U.vm B.U.heap.size) (hgr : T.heap.size ≤ B.U.heap.size) (hpost : ∃ L, Q v B.U.heap L ∧ B.locs = locs ++ L ∧ B.cells = cells + kc ∧ B.slots = slots + ks ∧ CHr Z EL V h B.U.vm B.U.heap)
    (hq : ∀ v hh L, Q v hh L → Fr Z.heap.size L ∧ Keep h hh wy) (hg : ∀ x ∈ wy, Z.heap.size ≤ x ∧ (x ∈ ws ∨ hb.size ≤ x)) :
    ∃ L, Q v B.U.heap L ∧ Keep h B.U.heap wy ∧ CHr Z EL V h B.U.vm B.U.heap ∧ Wk p l e R (s.setVm B.U.vm) m args below meth c own Z hb ws (IW s Z EL B.U.vm) B.U B.U.heap (locs ++ L) (cells + kc) (slots + ks) := by
  obtain ⟨X, hx, eT, hZ, ho, o, fr, kp, ⟨k0, i1, i2⟩, i3, i4⟩ := W
  obtain ⟨⟨U, lo, kc', ks'⟩, rfl⟩ : ∃ B', B' = B := ⟨_, rfl⟩
  obtain ⟨L', q, e1, e2, e3, hC⟩ := hpost
  have e1 : lo = locs ++ L' := e1
  have e2 : kc' = cells + kc := e2
  have e3 : ks' = slots + ks := e3
  subst e1 e2 e3
  obtain ⟨f, k⟩ := hq _ _ _ q
  obtain ⟨Y, hS2, hZ2, ho2⟩ := rebS (n1 := T.heap.size) i1 (by rw [eT]; exact i2) X' hS hgr hZ ho
  exact ⟨L', q, k, hC, Y, hx, rfl, hZ2, ho2, o.keep k (fun x hx => (hg x hx).1), fr.app f, kp.trans k (fun x hx => (hg x hx).2), ⟨_, hS2, Nat.le_refl _⟩, hC.1, i4.trans hC⟩
theorem o_specialW (W : Wk p l e R (s.setVm V) m args below meth c own Z hb ws (IW s Z EL V) T h locs cells slots) {index : Nat} {y : MethodName} {bytes : ByteArray} {maxL : Nat} (hy1 : y.name = "<init>") (w1 : (Cond.methodLink own index y).before a0 Z = true) (w2 : (Cond.instanceMethod y).before a0 Z = true) (w4 : (Cond.code y bytes maxL none).before a0 Z = true)
    (hy : y.cls ≠ "java/lang/invoke/MethodHandle" ∧ y.cls ≠ "java/lang/invoke/VarHandle") {Wd kc ks : Nat} {Q : Option Value → Heap → List Loc → Prop} {a : Addr} {argsL : List Value} (B : BackSQ l R p e below (s.setVm V) args y 3 Wd (.ref a :: argsL).toArray h kc ks Q Z EL V) (hml : L.size = c.maxLocals)
    (hlen : ∀ sig, parseMethodDescriptor y.desc = some sig → argsL.length = sig.parameters.length) {S0 : List Value} (hS : S0 = argsL.reverse ++ .ref a :: S) (hW : 2 * 0 + (S.map fun v => v.category).sum ≤ Wd) (hd : decode c.code pc = .ok (.invokespecial index, 3)) (hp : pc + 3 = pc')
    (hc' : cells + kc = cells') (hs' : slots + ks = slots') (hc : cells' ≤ R.cells) (hs : slots' ≤ R.slots) {wy : List Addr} (hq : ∀ v hh L, Q v hh L → Fr Z.heap.size L ∧ Keep h hh wy) (hg : ∀ x ∈ wy, Z.heap.size ≤ x ∧ (x ∈ ws ∨ hb.size ≤ x))
    (K : ∀ v T' h' V' Lc, Wk p l e R (s.setVm V') m args below meth c own Z hb ws (IW s Z EL V') T' h' (locs ++ Lc) cells' slots' → Keep h h' wy → CHr Z EL V h V' h' → Q v h' Lc → Gl p.tables e below P T' m pc' L (v.toList ++ S)) : Gl p.tables e below P T m pc L S0 := by
  subst hp hc' hs' hS
  obtain ⟨v, vm₁, B', -, X', hS, hgr, hpost, st⟩ := W.1.specialBackS W.2.1 hy1 W.2.2.2.2.1 (mvT W.2.2.2.1 w1) (mvT W.2.2.2.1 w2) (mvT W.2.2.2.1 w4) hy B (g := mkF m pc L (argsL.reverse ++ .ref a :: S)) rfl hml (Steps.refl _) hlen rfl hW hd (fun _ _ => ⟨rfl, W.2.2.1, hc, hs⟩)
  obtain ⟨Lc, q, k, hC, W'⟩ := o_afterW W X' hS hgr hpost hq hg
  exact Gl.tr st (K v _ _ _ Lc W' k hC q)
theorem o_leaveWW {Q : Option Value → Heap → Prop} (W : Wk p l e R (s.setVm V) m args below meth c own Z hb ws (IW s Z EL V) T h locs cells slots) (hEL : EW Z a0 EL) (hlk : meth.locks = false) {v : Option Value} (hv : meth.sig.returnType = none → v = none) (hq : Q v h) (hc : cells ≤ R.cells) (hs : slots ≤ R.slots) (st : ∀ fs, (∀ (f : JFrame) (acts : List Action), f.method = m → f.locked = none → f.entered = [] → (doReturn e (T.setTop f) acts v).1 = T.setFrames fs) → Steps p.tables e below (T.setTop (mkF m pc L S)) (T.setFrames fs)) :
    Gl p.tables e below (PW s Z EL below hb ws R Q) T m pc L S := by
  obtain ⟨X, hx, eT, hZ, ho, o, fr, kp, ⟨k0, i1, i2⟩, i3, i4⟩ := W
  obtain ⟨fs, hr, hrun, hended, a1, a2, a3, a4⟩ := X.leaveW i1 (by rw [eT]; exact i2) (v := v) hv
  have eh : (T.setFrames fs).heap = h := eT
  have hA := CHv.at X hZ hEL i3
  exact ⟨_, _, st fs hr, hrun, hended, v, locs, rfl, ⟨fr, by rw [eh]; exact kp, by rw [eh]; exact hq⟩, by rw [eh]; exact i4.trans hA, a1, a2, a3, a4.mono hc hs⟩
theorem o_retNW (W : Wk p l e R (s.setVm V) m args below meth c own Z hb ws (IW s Z EL V) T h locs cells slots) (hEL : EW Z a0 EL) (hlk : meth.locks = false) {Q : Option Value → Heap → Prop} {z z' : Int32} {t : FieldType} (hret : meth.sig.returnType = some t) (ht : t = .boolean ∨ t = .byte ∨ t = .char ∨ t = .short) (hz : nar t z = z') (hd : decode c.code pc = .ok (.ireturn, 1)) (hc : cells ≤ R.cells) (hs : slots ≤ R.slots) (hq : Q (some (.int z')) h) : Gl p.tables e below (PW s Z EL below hb ws R Q) T m pc L (.int z :: S) := by
  subst hz
  exact o_leaveWW W hEL hlk (fun q => by rw [hret] at q; cases q) hq hc hs fun fs hr => retN W.1 W.2.1 hret ht hd hr
theorem o_ret0W (W : Wk p l e R (s.setVm V) m args below meth c own Z hb ws (IW s Z EL V) T h locs cells slots) (hEL : EW Z a0 EL) (hlk : meth.locks = false) {Q : Option Value → Heap → Prop} (hret : meth.sig.returnType = none) (hd : decode c.code pc = .ok (.return_, 1)) (hc : cells ≤ R.cells) (hs : slots ≤ R.slots) (hq : Q none h) : Gl p.tables e below (PW s Z EL below hb ws R Q) T m pc L [] :=
  o_leaveWW W hEL hlk (fun _ => rfl) hq hc hs fun fs hr => W.1.returnOut W.2.1 hret hd hr
end OwnWide
section OwnMore
variable {p : Program} {l : Launch} {e : Env} {R : Room} {s : State} {m : MethodId} {args : Array Value} {below : List Frame} {meth : Method} {c : Code} {T : State} {locs : List Loc} {cells slots cells' slots' : Nat} {Z : State} {a0 : Array Value} {h h' hb : Heap} {ws : List Addr} {own : String} {I : Heap → Prop} {P : State → Outcome → Prop} {pc pc' : Nat} {L L' : Array Slot} {S : List Value}
end OwnMore
set_option maxRecDepth 65536
set_option maxHeartbeats 40000000

def own_b (x : Int32) : Prop := ¬ x < 0 ∧ ¬ (255 : Int32) < x
def own_01 (x : Int32) : Prop := x = 0 ∨ x = 1
def own_ok (cs : List Int32) : Prop := (∀ c ∈ cs, own_b c) ∧ cs.length ≤ 4000
def own_eq (cs ds : List Int32) : Int32 := if cs = ds then 1 else 0
theorem own_eq01 (cs ds : List Int32) : own_01 (own_eq cs ds) := by unfold own_eq own_01; split <;> simp
theorem own_eq_symm (cs ds : List Int32) : own_eq cs ds = own_eq ds cs := by
  unfold own_eq
  by_cases h : cs = ds
  · rw [if_pos h, if_pos h.symm]
  · rw [if_neg h, if_neg (Ne.symm h)]
theorem own_lcs (x : Int64) : lcmpW x x = 0 := by simp [lcmpW]
theorem own_eqne (cs : List Int32) : ¬ own_eq cs cs = 0 := by unfold own_eq; rw [if_pos rfl]; decide
theorem own_ite0 {P : Prop} [Decidable P] (h : ¬ P) : (0 : Int32) = if P then 1 else 0 := (if_neg h).symm
theorem own_ite1 {P : Prop} [Decidable P] (h : P) : (1 : Int32) = if P then 1 else 0 := (if_pos h).symm
theorem own_b255 (x : Int32) : own_b (x &&& (255 : Int32)) := by
  have h := c_andS x 255
  have h1 : (x &&& (255 : Int32)).toBitVec.toNat ≤ 255 := by
    rw [Int32.toBitVec_and, BitVec.toNat_and]; exact Nat.and_le_right
  have h0 := h.2.2 (by decide)
  have e : (x &&& (255 : Int32)).toInt = (x &&& (255 : Int32)).toBitVec.toNat := by
    show (x &&& (255 : Int32)).toBitVec.toInt = _
    rw [BitVec.toInt_eq_toNat_cond, if_pos (by omega)]
  refine ⟨?_, ?_⟩
  · rw [Int32.lt_iff_toInt_lt]; show ¬ _ < (0 : Int); omega
  · rw [Int32.lt_iff_toInt_lt]; show ¬ (255 : Int) < _; omega
theorem own_bnat {x : Int32} (h : own_b x) : x.toBitVec.toNat ≤ 255 ∧ x.toInt = x.toBitVec.toNat := by
  obtain ⟨h0, h1⟩ := h
  rw [Int32.lt_iff_toInt_lt] at h0 h1
  have e0 : (0 : Int32).toInt = 0 := rfl
  have e1 : (255 : Int32).toInt = 255 := rfl
  have := x.toBitVec.isLt
  have e : x.toInt = x.toBitVec.toInt := rfl
  have e2 : x.toBitVec.toInt = if 2 * x.toBitVec.toNat < 2 ^ 32 then (x.toBitVec.toNat : Int) else (x.toBitVec.toNat : Int) - ((2 ^ 32 : Nat) : Int) := BitVec.toInt_eq_toNat_cond x.toBitVec
  split at e2 <;> omega
theorem own_i2c {x : Int32} (h : own_b x) : x.toUInt32.toUInt16.toUInt32.toInt32 = x := by
  obtain ⟨h1, -⟩ := own_bnat h
  apply Int32.toBitVec_inj.mp
  apply BitVec.eq_of_toNat_eq
  show (BitVec.setWidth 32 (BitVec.setWidth 16 x.toBitVec)).toNat = _
  simp only [BitVec.toNat_setWidth]
  omega
theorem own_fitC {x : Int32} (h : own_b x) : fits .char (.int x) = true := by
  have q := fits_nar_char x
  have e : nar .char x = x := own_i2c h
  rw [e] at q; exact q
theorem own_nar01 {x : Int32} (h : own_01 x) : x &&& 1 = x := by rcases h with rfl | rfl <;> decide
theorem own_fit01 {x : Int32} (h : own_01 x) : fits .boolean (.int x) = true := by rcases h with rfl | rfl <;> decide
theorem own_up {cs : List Int32} (h : own_ok cs) : ∀ c ∈ cs, ¬ c < 0 ∧ ¬ (65535 : Int32) < c := fun c hc => by
  obtain ⟨h0, h1⟩ := h.1 c hc
  refine ⟨h0, fun q => h1 ?_⟩
  rw [Int32.lt_iff_toInt_lt] at q ⊢
  have e0 : (65535 : Int32).toInt = 65535 := rfl
  have e1 : (255 : Int32).toInt = 255 := rfl
  omega
theorem own_eqv {v : Option Value} {cs ds : List Int32} (h : (v = some (.int 1) ∧ cs = ds) ∨ (v = some (.int 0) ∧ ¬ cs = ds)) : v = some (.int (own_eq cs ds)) := by
  unfold own_eq
  rcases h with ⟨rfl, h⟩ | ⟨rfl, h⟩
  · rw [if_pos h]
  · rw [if_neg h]
theorem own_b8 (x : Int32) : x.toInt8.toInt32.toInt8.toInt32 = x.toInt8.toInt32 := by simp
theorem own_fit8 (x : Int32) : fits .byte (.int x.toInt8.toInt32) = true := fits_nar_byte x
theorem own_shr8 {x : Int32} (h : own_b x) : (x.toUInt32 >>> ((8 : Int32) &&& 31).toUInt32).toInt32 = 0 := by
  obtain ⟨h1, -⟩ := own_bnat h
  apply Int32.toBitVec_inj.mp
  apply BitVec.eq_of_toNat_eq
  have e : ((8 : Int32) &&& 31).toUInt32 = 8 := by decide
  rw [e]
  show (x.toUInt32 >>> 8).toBitVec.toNat = 0
  rw [UInt32.toBitVec_shiftRight]
  show (x.toBitVec >>> (8 : UInt32).toBitVec.umod 32).toNat = 0
  rw [BitVec.ushiftRight_eq', BitVec.toNat_ushiftRight, show ((8 : UInt32).toBitVec.umod 32).toNat = 8 by decide, Nat.shiftRight_eq_div_pow]
  omega
theorem own_eqS {args : Array Value} {Z : State} {t : Term} {x : Int32} (h : t.eval args Z none [] Z = some (.int x)) : (Jvm.Cond.eq t (.int 0)).value args Z none Z [] = some (decide (x = 0)) := by
  simp [Cond.value, h, Term.eval]
theorem own_same {n : Nat} {L : List Loc} {h hh : Heap} (q : L = [] ∧ hh = h) : Fr n L ∧ Keep h hh [] := by
  obtain ⟨rfl, rfl⟩ := q
  exact ⟨Fr.nil _, Keep.refl _ _⟩
theorem own_hV {Z : State} {a0 : Array Value} (hw : ∀ d ∈ tables_1, d.before a0 Z = true) : ∀ d ∈ StrChars.Road.words, d.before a0 Z = true := fun d hd => hw d ((by decide +kernel : ∀ w ∈ StrChars.Road.words, w ∈ tables_1) d hd)
theorem own_wS {Z : State} {a0 : Array Value} (hw : ∀ d ∈ tables_1, d.before a0 Z = true) : ∀ a ∈ Bundle.stringAtoms, a.before a0 Z = true := fun d hd => hw d ((by decide +kernel : ∀ w ∈ Bundle.stringAtoms, w ∈ tables_1) d hd)
theorem own_EL {Z : State} {a0 : Array Value} (hw : ∀ d ∈ tables_1, d.before a0 Z = true) : EW Z a0 consts_1 := (EW.cons (hw _ (List.mem_of_getElem? (i := 105) rfl)) (by decide) EW.nil)

def own_4 (n : Int32) : Prop := n = 0 ∨ n = 1 ∨ n = 2 ∨ n = 3
theorem own_and3 (x : Int32) : own_4 (x &&& (3 : Int32)) := by
  have h1 : (x &&& (3 : Int32)).toBitVec.toNat ≤ 3 := by
    rw [Int32.toBitVec_and, BitVec.toNat_and]; exact Nat.and_le_right
  have key : ∀ b : BitVec 32, b.toNat ≤ 3 → b = 0#32 ∨ b = 1#32 ∨ b = 2#32 ∨ b = 3#32 := fun b hb => by
    rcases Nat.lt_or_ge b.toNat 1 with q | q
    · exact Or.inl (BitVec.eq_of_toNat_eq (by simp; omega))
    · rcases Nat.lt_or_ge b.toNat 2 with q | q
      · exact Or.inr (Or.inl (BitVec.eq_of_toNat_eq (by simp; omega)))
      · rcases Nat.lt_or_ge b.toNat 3 with q | q
        · exact Or.inr (Or.inr (Or.inl (BitVec.eq_of_toNat_eq (by simp; omega))))
        · exact Or.inr (Or.inr (Or.inr (BitVec.eq_of_toNat_eq (by simp; omega))))
  rcases key _ h1 with q | q | q | q
  · exact Or.inl (Int32.toBitVec_inj.mp q)
  · exact Or.inr (Or.inl (Int32.toBitVec_inj.mp q))
  · exact Or.inr (Or.inr (Or.inl (Int32.toBitVec_inj.mp q)))
  · exact Or.inr (Or.inr (Or.inr (Int32.toBitVec_inj.mp q)))

theorem w0 {Z : State} {a0 : Array Value} (hw : ∀ d ∈ tables_1, d.before a0 Z = true) : ((Jvm.Cond.arrayClass Jvm.ClassFile.FieldType.char)).before a0 Z = true := hw _ (List.mem_of_getElem? (i := 0) rfl)
theorem w1 {Z : State} {a0 : Array Value} (hw : ∀ d ∈ tables_1, d.before a0 Z = true) : ((Jvm.Cond.classLink "com/example/sluicegate/sluicegate/job/MetricReportMeterPinLaw" (7 : Nat) "java/lang/String")).before a0 Z = true := hw _ (List.mem_of_getElem? (i := 1) rfl)
theorem w2 {Z : State} {a0 : Array Value} (hw : ∀ d ∈ tables_1, d.before a0 Z = true) : ((Jvm.Cond.instantiable "java/lang/String" (4 : Nat))).before a0 Z = true := hw _ (List.mem_of_getElem? (i := 2) rfl)
theorem w3 {Z : State} {a0 : Array Value} (hw : ∀ d ∈ tables_1, d.before a0 Z = true) : ((Jvm.Cond.initialized "java/lang/String")).before a0 Z = true := hw _ (List.mem_of_getElem? (i := 3) rfl)
theorem w4 {Z : State} {a0 : Array Value} (hw : ∀ d ∈ tables_1, d.before a0 Z = true) : ((Jvm.Cond.methodLink "com/example/sluicegate/sluicegate/job/MetricReportMeterPinLaw" (9 : Nat) ({ cls := "java/lang/String", name := "<init>", desc := "([C)V" } : Jvm.MethodName))).before a0 Z = true := hw _ (List.mem_of_getElem? (i := 4) rfl)
theorem w5 {Z : State} {a0 : Array Value} (hw : ∀ d ∈ tables_1, d.before a0 Z = true) : ((Jvm.Cond.instanceMethod ({ cls := "java/lang/String", name := "<init>", desc := "([C)V" } : Jvm.MethodName))).before a0 Z = true := hw _ (List.mem_of_getElem? (i := 5) rfl)
theorem w6 {Z : State} {a0 : Array Value} (hw : ∀ d ∈ tables_1, d.before a0 Z = true) : ((Jvm.Cond.code ({ cls := "java/lang/String", name := "<init>", desc := "([C)V" } : Jvm.MethodName) jdk_42_method_3_code (2 : Nat) (Option.none : Option Jvm.ClassFile.FieldType))).before a0 Z = true := hw _ (List.mem_of_getElem? (i := 6) rfl)
theorem w7 {Z : State} {a0 : Array Value} (hw : ∀ d ∈ tables_1, d.before a0 Z = true) : ((Jvm.Cond.methodLink "java/lang/String" (27 : Nat) ({ cls := "java/lang/String", name := "<init>", desc := "([CIILjava/lang/Void;)V" } : Jvm.MethodName))).before a0 Z = true := hw _ (List.mem_of_getElem? (i := 7) rfl)
theorem w8 {Z : State} {a0 : Array Value} (hw : ∀ d ∈ tables_1, d.before a0 Z = true) : ((Jvm.Cond.instanceMethod ({ cls := "java/lang/String", name := "<init>", desc := "([CIILjava/lang/Void;)V" } : Jvm.MethodName))).before a0 Z = true := hw _ (List.mem_of_getElem? (i := 8) rfl)
theorem w10 {Z : State} {a0 : Array Value} (hw : ∀ d ∈ tables_1, d.before a0 Z = true) : ((Jvm.Cond.code ({ cls := "java/lang/String", name := "<init>", desc := "([CIILjava/lang/Void;)V" } : Jvm.MethodName) jdk_42_method_149_code (6 : Nat) (Option.none : Option Jvm.ClassFile.FieldType))).before a0 Z = true := hw _ (List.mem_of_getElem? (i := 10) rfl)
theorem w11 {Z : State} {a0 : Array Value} (hw : ∀ d ∈ tables_1, d.before a0 Z = true) : ((Jvm.Cond.methodLink "java/lang/String" (1 : Nat) ({ cls := "java/lang/Object", name := "<init>", desc := "()V" } : Jvm.MethodName))).before a0 Z = true := hw _ (List.mem_of_getElem? (i := 11) rfl)
theorem w12 {Z : State} {a0 : Array Value} (hw : ∀ d ∈ tables_1, d.before a0 Z = true) : ((Jvm.Cond.instanceMethod ({ cls := "java/lang/Object", name := "<init>", desc := "()V" } : Jvm.MethodName))).before a0 Z = true := hw _ (List.mem_of_getElem? (i := 12) rfl)
theorem w13 {Z : State} {a0 : Array Value} (hw : ∀ d ∈ tables_1, d.before a0 Z = true) : ((Jvm.Cond.code ({ cls := "java/lang/Object", name := "<init>", desc := "()V" } : Jvm.MethodName) object_method_1_code (1 : Nat) (Option.none : Option Jvm.ClassFile.FieldType))).before a0 Z = true := hw _ (List.mem_of_getElem? (i := 13) rfl)
theorem w19 {Z : State} {a0 : Array Value} (hw : ∀ d ∈ tables_1, d.before a0 Z = true) : ((Jvm.Cond.arrayClass Jvm.ClassFile.FieldType.byte)).before a0 Z = true := hw _ (List.mem_of_getElem? (i := 19) rfl)
theorem w26 {Z : State} {a0 : Array Value} (hw : ∀ d ∈ tables_1, d.before a0 Z = true) : ((Jvm.Cond.fieldLink "java/lang/String" (15 : Nat) "java/lang/String" "coder" "B")).before a0 Z = true := hw _ (List.mem_of_getElem? (i := 26) rfl)
theorem w27 {Z : State} {a0 : Array Value} (hw : ∀ d ∈ tables_1, d.before a0 Z = true) : ((Jvm.Cond.laysFinal "java/lang/String" "java/lang/String" "coder" "B")).before a0 Z = true := hw _ (List.mem_of_getElem? (i := 27) rfl)
theorem w28 {Z : State} {a0 : Array Value} (hw : ∀ d ∈ tables_1, d.before a0 Z = true) : ((Jvm.Cond.fieldLink "java/lang/String" (9 : Nat) "java/lang/String" "value" "[B")).before a0 Z = true := hw _ (List.mem_of_getElem? (i := 28) rfl)
theorem w29 {Z : State} {a0 : Array Value} (hw : ∀ d ∈ tables_1, d.before a0 Z = true) : ((Jvm.Cond.laysFinal "java/lang/String" "java/lang/String" "value" "[B")).before a0 Z = true := hw _ (List.mem_of_getElem? (i := 29) rfl)
theorem w30 {Z : State} {a0 : Array Value} (hw : ∀ d ∈ tables_1, d.before a0 Z = true) : ((Jvm.Cond.methodLink "com/example/sluicegate/sluicegate/job/MetricReportMeterPinLaw" (12 : Nat) ({ cls := "com/example/sluicegate/sluicegate/job/MetricReport", name := "meter", desc := "(Ljava/lang/String;JLjava/util/Map;J)Lcom/example/sluicegate/sluicegate/job/MetricReport;" } : Jvm.MethodName))).before a0 Z = true := hw _ (List.mem_of_getElem? (i := 30) rfl)
theorem w31 {Z : State} {a0 : Array Value} (hw : ∀ d ∈ tables_1, d.before a0 Z = true) : ((Jvm.Cond.static ({ cls := "com/example/sluicegate/sluicegate/job/MetricReport", name := "meter", desc := "(Ljava/lang/String;JLjava/util/Map;J)Lcom/example/sluicegate/sluicegate/job/MetricReport;" } : Jvm.MethodName))).before a0 Z = true := hw _ (List.mem_of_getElem? (i := 31) rfl)
theorem w32 {Z : State} {a0 : Array Value} (hw : ∀ d ∈ tables_1, d.before a0 Z = true) : ((Jvm.Cond.initialized "com/example/sluicegate/sluicegate/job/MetricReport")).before a0 Z = true := hw _ (List.mem_of_getElem? (i := 32) rfl)
theorem w33 {Z : State} {a0 : Array Value} (hw : ∀ d ∈ tables_1, d.before a0 Z = true) : ((Jvm.Cond.code ({ cls := "com/example/sluicegate/sluicegate/job/MetricReport", name := "meter", desc := "(Ljava/lang/String;JLjava/util/Map;J)Lcom/example/sluicegate/sluicegate/job/MetricReport;" } : Jvm.MethodName) prog_16_method_3_code (6 : Nat) (Option.some (Jvm.ClassFile.FieldType.object "com/example/sluicegate/sluicegate/job/MetricReport")))).before a0 Z = true := hw _ (List.mem_of_getElem? (i := 33) rfl)
theorem w34 {Z : State} {a0 : Array Value} (hw : ∀ d ∈ tables_1, d.before a0 Z = true) : ((Jvm.Cond.classLink "com/example/sluicegate/sluicegate/job/MetricReport" (8 : Nat) "com/example/sluicegate/sluicegate/job/MetricReport")).before a0 Z = true := hw _ (List.mem_of_getElem? (i := 34) rfl)
theorem w35 {Z : State} {a0 : Array Value} (hw : ∀ d ∈ tables_1, d.before a0 Z = true) : ((Jvm.Cond.instantiable "com/example/sluicegate/sluicegate/job/MetricReport" (7 : Nat))).before a0 Z = true := hw _ (List.mem_of_getElem? (i := 35) rfl)
theorem w36 {Z : State} {a0 : Array Value} (hw : ∀ d ∈ tables_1, d.before a0 Z = true) : ((Jvm.Cond.fieldLink "com/example/sluicegate/sluicegate/job/MetricReport" (48 : Nat) "com/example/sluicegate/sluicegate/job/MetricReport$Type" "METER" "Lcom/example/sluicegate/sluicegate/job/MetricReport$Type;")).before a0 Z = true := hw _ (List.mem_of_getElem? (i := 36) rfl)
theorem w37 {Z : State} {a0 : Array Value} (hw : ∀ d ∈ tables_1, d.before a0 Z = true) : ((Jvm.Cond.initialized "com/example/sluicegate/sluicegate/job/MetricReport$Type")).before a0 Z = true := hw _ (List.mem_of_getElem? (i := 37) rfl)
theorem w38 {Z : State} {a0 : Array Value} (hw : ∀ d ∈ tables_1, d.before a0 Z = true) : ((Jvm.Cond.laysStatic "com/example/sluicegate/sluicegate/job/MetricReport$Type" "METER" "Lcom/example/sluicegate/sluicegate/job/MetricReport$Type;")).before a0 Z = true := hw _ (List.mem_of_getElem? (i := 38) rfl)
theorem w39 {Z : State} {a0 : Array Value} (hw : ∀ d ∈ tables_1, d.before a0 Z = true) : ((Jvm.Cond.fieldLink "com/example/sluicegate/sluicegate/job/MetricReport" (40 : Nat) "java/time/Duration" "ZERO" "Ljava/time/Duration;")).before a0 Z = true := hw _ (List.mem_of_getElem? (i := 39) rfl)
theorem w41 {Z : State} {a0 : Array Value} (hw : ∀ d ∈ tables_1, d.before a0 Z = true) : ((Jvm.Cond.methodLink "com/example/sluicegate/sluicegate/job/MetricReport" (45 : Nat) ({ cls := "com/example/sluicegate/sluicegate/job/MetricReport", name := "<init>", desc := "(Ljava/lang/String;Lcom/example/sluicegate/sluicegate/job/MetricReport$Type;JLjava/time/Duration;Ljava/time/Duration;Ljava/util/Map;J)V" } : Jvm.MethodName))).before a0 Z = true := hw _ (List.mem_of_getElem? (i := 41) rfl)
theorem w42 {Z : State} {a0 : Array Value} (hw : ∀ d ∈ tables_1, d.before a0 Z = true) : ((Jvm.Cond.instanceMethod ({ cls := "com/example/sluicegate/sluicegate/job/MetricReport", name := "<init>", desc := "(Ljava/lang/String;Lcom/example/sluicegate/sluicegate/job/MetricReport$Type;JLjava/time/Duration;Ljava/time/Duration;Ljava/util/Map;J)V" } : Jvm.MethodName))).before a0 Z = true := hw _ (List.mem_of_getElem? (i := 42) rfl)
theorem w43 {Z : State} {a0 : Array Value} (hw : ∀ d ∈ tables_1, d.before a0 Z = true) : ((Jvm.Cond.code ({ cls := "com/example/sluicegate/sluicegate/job/MetricReport", name := "<init>", desc := "(Ljava/lang/String;Lcom/example/sluicegate/sluicegate/job/MetricReport$Type;JLjava/time/Duration;Ljava/time/Duration;Ljava/util/Map;J)V" } : Jvm.MethodName) prog_16_method_1_code (10 : Nat) (Option.none : Option Jvm.ClassFile.FieldType))).before a0 Z = true := hw _ (List.mem_of_getElem? (i := 43) rfl)
theorem w44 {Z : State} {a0 : Array Value} (hw : ∀ d ∈ tables_1, d.before a0 Z = true) : ((Jvm.Cond.methodLink "com/example/sluicegate/sluicegate/job/MetricReport" (1 : Nat) ({ cls := "java/lang/Object", name := "<init>", desc := "()V" } : Jvm.MethodName))).before a0 Z = true := hw _ (List.mem_of_getElem? (i := 44) rfl)
theorem w45 {Z : State} {a0 : Array Value} (hw : ∀ d ∈ tables_1, d.before a0 Z = true) : ((Jvm.Cond.fieldLink "com/example/sluicegate/sluicegate/job/MetricReport" (7 : Nat) "com/example/sluicegate/sluicegate/job/MetricReport" "name" "Ljava/lang/String;")).before a0 Z = true := hw _ (List.mem_of_getElem? (i := 45) rfl)
theorem w46 {Z : State} {a0 : Array Value} (hw : ∀ d ∈ tables_1, d.before a0 Z = true) : ((Jvm.Cond.laysFinal "com/example/sluicegate/sluicegate/job/MetricReport" "com/example/sluicegate/sluicegate/job/MetricReport" "name" "Ljava/lang/String;")).before a0 Z = true := hw _ (List.mem_of_getElem? (i := 46) rfl)
theorem w47 {Z : State} {a0 : Array Value} (hw : ∀ d ∈ tables_1, d.before a0 Z = true) : ((Jvm.Cond.fieldLink "com/example/sluicegate/sluicegate/job/MetricReport" (13 : Nat) "com/example/sluicegate/sluicegate/job/MetricReport" "type" "Lcom/example/sluicegate/sluicegate/job/MetricReport$Type;")).before a0 Z = true := hw _ (List.mem_of_getElem? (i := 47) rfl)
theorem w48 {Z : State} {a0 : Array Value} (hw : ∀ d ∈ tables_1, d.before a0 Z = true) : ((Jvm.Cond.laysFinal "com/example/sluicegate/sluicegate/job/MetricReport" "com/example/sluicegate/sluicegate/job/MetricReport" "type" "Lcom/example/sluicegate/sluicegate/job/MetricReport$Type;")).before a0 Z = true := hw _ (List.mem_of_getElem? (i := 48) rfl)
theorem w49 {Z : State} {a0 : Array Value} (hw : ∀ d ∈ tables_1, d.before a0 Z = true) : ((Jvm.Cond.fieldLink "com/example/sluicegate/sluicegate/job/MetricReport" (17 : Nat) "com/example/sluicegate/sluicegate/job/MetricReport" "count" "J")).before a0 Z = true := hw _ (List.mem_of_getElem? (i := 49) rfl)
theorem w50 {Z : State} {a0 : Array Value} (hw : ∀ d ∈ tables_1, d.before a0 Z = true) : ((Jvm.Cond.laysFinal "com/example/sluicegate/sluicegate/job/MetricReport" "com/example/sluicegate/sluicegate/job/MetricReport" "count" "J")).before a0 Z = true := hw _ (List.mem_of_getElem? (i := 50) rfl)
theorem w51 {Z : State} {a0 : Array Value} (hw : ∀ d ∈ tables_1, d.before a0 Z = true) : ((Jvm.Cond.fieldLink "com/example/sluicegate/sluicegate/job/MetricReport" (21 : Nat) "com/example/sluicegate/sluicegate/job/MetricReport" "mean" "Ljava/time/Duration;")).before a0 Z = true := hw _ (List.mem_of_getElem? (i := 51) rfl)
theorem w52 {Z : State} {a0 : Array Value} (hw : ∀ d ∈ tables_1, d.before a0 Z = true) : ((Jvm.Cond.laysFinal "com/example/sluicegate/sluicegate/job/MetricReport" "com/example/sluicegate/sluicegate/job/MetricReport" "mean" "Ljava/time/Duration;")).before a0 Z = true := hw _ (List.mem_of_getElem? (i := 52) rfl)
theorem w53 {Z : State} {a0 : Array Value} (hw : ∀ d ∈ tables_1, d.before a0 Z = true) : ((Jvm.Cond.fieldLink "com/example/sluicegate/sluicegate/job/MetricReport" (25 : Nat) "com/example/sluicegate/sluicegate/job/MetricReport" "max" "Ljava/time/Duration;")).before a0 Z = true := hw _ (List.mem_of_getElem? (i := 53) rfl)
theorem w54 {Z : State} {a0 : Array Value} (hw : ∀ d ∈ tables_1, d.before a0 Z = true) : ((Jvm.Cond.laysFinal "com/example/sluicegate/sluicegate/job/MetricReport" "com/example/sluicegate/sluicegate/job/MetricReport" "max" "Ljava/time/Duration;")).before a0 Z = true := hw _ (List.mem_of_getElem? (i := 54) rfl)
theorem w55 {Z : State} {a0 : Array Value} (hw : ∀ d ∈ tables_1, d.before a0 Z = true) : ((Jvm.Cond.fieldLink "com/example/sluicegate/sluicegate/job/MetricReport" (28 : Nat) "com/example/sluicegate/sluicegate/job/MetricReport" "tags" "Ljava/util/Map;")).before a0 Z = true := hw _ (List.mem_of_getElem? (i := 55) rfl)
theorem w56 {Z : State} {a0 : Array Value} (hw : ∀ d ∈ tables_1, d.before a0 Z = true) : ((Jvm.Cond.laysFinal "com/example/sluicegate/sluicegate/job/MetricReport" "com/example/sluicegate/sluicegate/job/MetricReport" "tags" "Ljava/util/Map;")).before a0 Z = true := hw _ (List.mem_of_getElem? (i := 56) rfl)
theorem w57 {Z : State} {a0 : Array Value} (hw : ∀ d ∈ tables_1, d.before a0 Z = true) : ((Jvm.Cond.fieldLink "com/example/sluicegate/sluicegate/job/MetricReport" (32 : Nat) "com/example/sluicegate/sluicegate/job/MetricReport" "timestamp" "J")).before a0 Z = true := hw _ (List.mem_of_getElem? (i := 57) rfl)
theorem w58 {Z : State} {a0 : Array Value} (hw : ∀ d ∈ tables_1, d.before a0 Z = true) : ((Jvm.Cond.laysFinal "com/example/sluicegate/sluicegate/job/MetricReport" "com/example/sluicegate/sluicegate/job/MetricReport" "timestamp" "J")).before a0 Z = true := hw _ (List.mem_of_getElem? (i := 58) rfl)
theorem w59 {Z : State} {a0 : Array Value} (hw : ∀ d ∈ tables_1, d.before a0 Z = true) : ((Jvm.Cond.methodLink "com/example/sluicegate/sluicegate/job/MetricReportMeterPinLaw" (18 : Nat) ({ cls := "com/example/sluicegate/sluicegate/job/MetricReport", name := "counter", desc := "(Ljava/lang/String;JLjava/util/Map;J)Lcom/example/sluicegate/sluicegate/job/MetricReport;" } : Jvm.MethodName))).before a0 Z = true := hw _ (List.mem_of_getElem? (i := 59) rfl)
theorem w60 {Z : State} {a0 : Array Value} (hw : ∀ d ∈ tables_1, d.before a0 Z = true) : ((Jvm.Cond.static ({ cls := "com/example/sluicegate/sluicegate/job/MetricReport", name := "counter", desc := "(Ljava/lang/String;JLjava/util/Map;J)Lcom/example/sluicegate/sluicegate/job/MetricReport;" } : Jvm.MethodName))).before a0 Z = true := hw _ (List.mem_of_getElem? (i := 60) rfl)
theorem w61 {Z : State} {a0 : Array Value} (hw : ∀ d ∈ tables_1, d.before a0 Z = true) : ((Jvm.Cond.code ({ cls := "com/example/sluicegate/sluicegate/job/MetricReport", name := "counter", desc := "(Ljava/lang/String;JLjava/util/Map;J)Lcom/example/sluicegate/sluicegate/job/MetricReport;" } : Jvm.MethodName) prog_16_method_2_code (6 : Nat) (Option.some (Jvm.ClassFile.FieldType.object "com/example/sluicegate/sluicegate/job/MetricReport")))).before a0 Z = true := hw _ (List.mem_of_getElem? (i := 61) rfl)
theorem w62 {Z : State} {a0 : Array Value} (hw : ∀ d ∈ tables_1, d.before a0 Z = true) : ((Jvm.Cond.fieldLink "com/example/sluicegate/sluicegate/job/MetricReport" (35 : Nat) "com/example/sluicegate/sluicegate/job/MetricReport$Type" "COUNTER" "Lcom/example/sluicegate/sluicegate/job/MetricReport$Type;")).before a0 Z = true := hw _ (List.mem_of_getElem? (i := 62) rfl)
theorem w63 {Z : State} {a0 : Array Value} (hw : ∀ d ∈ tables_1, d.before a0 Z = true) : ((Jvm.Cond.laysStatic "com/example/sluicegate/sluicegate/job/MetricReport$Type" "COUNTER" "Lcom/example/sluicegate/sluicegate/job/MetricReport$Type;")).before a0 Z = true := hw _ (List.mem_of_getElem? (i := 63) rfl)
theorem w64 {Z : State} {a0 : Array Value} (hw : ∀ d ∈ tables_1, d.before a0 Z = true) : ((Jvm.Cond.methodLink "com/example/sluicegate/sluicegate/job/MetricReportMeterPinLaw" (21 : Nat) ({ cls := "com/example/sluicegate/sluicegate/job/MetricReport", name := "name", desc := "()Ljava/lang/String;" } : Jvm.MethodName))).before a0 Z = true := hw _ (List.mem_of_getElem? (i := 64) rfl)
theorem w65 {Z : State} {a0 : Array Value} (hw : ∀ d ∈ tables_1, d.before a0 Z = true) : ((Jvm.Cond.declares ({ cls := "com/example/sluicegate/sluicegate/job/MetricReport", name := "name", desc := "()Ljava/lang/String;" } : Jvm.MethodName))).before a0 Z = true := hw _ (List.mem_of_getElem? (i := 65) rfl)
theorem w66 {Z : State} {a0 : Array Value} (hw : ∀ d ∈ tables_1, d.before a0 Z = true) : ((Jvm.Cond.instanceMethod ({ cls := "com/example/sluicegate/sluicegate/job/MetricReport", name := "name", desc := "()Ljava/lang/String;" } : Jvm.MethodName))).before a0 Z = true := hw _ (List.mem_of_getElem? (i := 66) rfl)
theorem w67 {Z : State} {a0 : Array Value} (hw : ∀ d ∈ tables_1, d.before a0 Z = true) : ((Jvm.Cond.selects "com/example/sluicegate/sluicegate/job/MetricReport" ({ cls := "com/example/sluicegate/sluicegate/job/MetricReport", name := "name", desc := "()Ljava/lang/String;" } : Jvm.MethodName) ({ cls := "com/example/sluicegate/sluicegate/job/MetricReport", name := "name", desc := "()Ljava/lang/String;" } : Jvm.MethodName))).before a0 Z = true := hw _ (List.mem_of_getElem? (i := 67) rfl)
theorem w68 {Z : State} {a0 : Array Value} (hw : ∀ d ∈ tables_1, d.before a0 Z = true) : ((Jvm.Cond.code ({ cls := "com/example/sluicegate/sluicegate/job/MetricReport", name := "name", desc := "()Ljava/lang/String;" } : Jvm.MethodName) prog_16_method_5_code (1 : Nat) (Option.some (Jvm.ClassFile.FieldType.object "java/lang/String")))).before a0 Z = true := hw _ (List.mem_of_getElem? (i := 68) rfl)
theorem w69 {Z : State} {a0 : Array Value} (hw : ∀ d ∈ tables_1, d.before a0 Z = true) : ((Jvm.Cond.methodLink "com/example/sluicegate/sluicegate/job/MetricReportMeterPinLaw" (25 : Nat) ({ cls := "java/lang/String", name := "equals", desc := "(Ljava/lang/Object;)Z" } : Jvm.MethodName))).before a0 Z = true := hw _ (List.mem_of_getElem? (i := 69) rfl)
theorem w70 {Z : State} {a0 : Array Value} (hw : ∀ d ∈ tables_1, d.before a0 Z = true) : ((Jvm.Cond.declares ({ cls := "java/lang/String", name := "equals", desc := "(Ljava/lang/Object;)Z" } : Jvm.MethodName))).before a0 Z = true := hw _ (List.mem_of_getElem? (i := 70) rfl)
theorem w71 {Z : State} {a0 : Array Value} (hw : ∀ d ∈ tables_1, d.before a0 Z = true) : ((Jvm.Cond.instanceMethod ({ cls := "java/lang/String", name := "equals", desc := "(Ljava/lang/Object;)Z" } : Jvm.MethodName))).before a0 Z = true := hw _ (List.mem_of_getElem? (i := 71) rfl)
theorem w72 {Z : State} {a0 : Array Value} (hw : ∀ d ∈ tables_1, d.before a0 Z = true) : ((Jvm.Cond.selects "java/lang/String" ({ cls := "java/lang/String", name := "equals", desc := "(Ljava/lang/Object;)Z" } : Jvm.MethodName) ({ cls := "java/lang/String", name := "equals", desc := "(Ljava/lang/Object;)Z" } : Jvm.MethodName))).before a0 Z = true := hw _ (List.mem_of_getElem? (i := 72) rfl)
theorem w73 {Z : State} {a0 : Array Value} (hw : ∀ d ∈ tables_1, d.before a0 Z = true) : ((Jvm.Cond.code ({ cls := "java/lang/String", name := "equals", desc := "(Ljava/lang/Object;)Z" } : Jvm.MethodName) jdk_42_method_66_code (3 : Nat) (Option.some Jvm.ClassFile.FieldType.boolean))).before a0 Z = true := hw _ (List.mem_of_getElem? (i := 73) rfl)
theorem w74 {Z : State} {a0 : Array Value} (hw : ∀ d ∈ tables_1, d.before a0 Z = true) : ((Jvm.Cond.methodLink "com/example/sluicegate/sluicegate/job/MetricReportMeterPinLaw" (29 : Nat) ({ cls := "com/example/sluicegate/sluicegate/job/MetricReport", name := "type", desc := "()Lcom/example/sluicegate/sluicegate/job/MetricReport$Type;" } : Jvm.MethodName))).before a0 Z = true := hw _ (List.mem_of_getElem? (i := 74) rfl)
theorem w75 {Z : State} {a0 : Array Value} (hw : ∀ d ∈ tables_1, d.before a0 Z = true) : ((Jvm.Cond.declares ({ cls := "com/example/sluicegate/sluicegate/job/MetricReport", name := "type", desc := "()Lcom/example/sluicegate/sluicegate/job/MetricReport$Type;" } : Jvm.MethodName))).before a0 Z = true := hw _ (List.mem_of_getElem? (i := 75) rfl)
theorem w76 {Z : State} {a0 : Array Value} (hw : ∀ d ∈ tables_1, d.before a0 Z = true) : ((Jvm.Cond.instanceMethod ({ cls := "com/example/sluicegate/sluicegate/job/MetricReport", name := "type", desc := "()Lcom/example/sluicegate/sluicegate/job/MetricReport$Type;" } : Jvm.MethodName))).before a0 Z = true := hw _ (List.mem_of_getElem? (i := 76) rfl)
theorem w77 {Z : State} {a0 : Array Value} (hw : ∀ d ∈ tables_1, d.before a0 Z = true) : ((Jvm.Cond.selects "com/example/sluicegate/sluicegate/job/MetricReport" ({ cls := "com/example/sluicegate/sluicegate/job/MetricReport", name := "type", desc := "()Lcom/example/sluicegate/sluicegate/job/MetricReport$Type;" } : Jvm.MethodName) ({ cls := "com/example/sluicegate/sluicegate/job/MetricReport", name := "type", desc := "()Lcom/example/sluicegate/sluicegate/job/MetricReport$Type;" } : Jvm.MethodName))).before a0 Z = true := hw _ (List.mem_of_getElem? (i := 77) rfl)
theorem w78 {Z : State} {a0 : Array Value} (hw : ∀ d ∈ tables_1, d.before a0 Z = true) : ((Jvm.Cond.code ({ cls := "com/example/sluicegate/sluicegate/job/MetricReport", name := "type", desc := "()Lcom/example/sluicegate/sluicegate/job/MetricReport$Type;" } : Jvm.MethodName) prog_16_method_6_code (1 : Nat) (Option.some (Jvm.ClassFile.FieldType.object "com/example/sluicegate/sluicegate/job/MetricReport$Type")))).before a0 Z = true := hw _ (List.mem_of_getElem? (i := 78) rfl)
theorem w79 {Z : State} {a0 : Array Value} (hw : ∀ d ∈ tables_1, d.before a0 Z = true) : ((Jvm.Cond.fieldLink "com/example/sluicegate/sluicegate/job/MetricReportMeterPinLaw" (33 : Nat) "com/example/sluicegate/sluicegate/job/MetricReport$Type" "METER" "Lcom/example/sluicegate/sluicegate/job/MetricReport$Type;")).before a0 Z = true := hw _ (List.mem_of_getElem? (i := 79) rfl)
theorem w80 {Z : State} {a0 : Array Value} (hw : ∀ d ∈ tables_1, d.before a0 Z = true) : ((Jvm.Cond.methodLink "com/example/sluicegate/sluicegate/job/MetricReportMeterPinLaw" (39 : Nat) ({ cls := "com/example/sluicegate/sluicegate/job/MetricReport", name := "count", desc := "()J" } : Jvm.MethodName))).before a0 Z = true := hw _ (List.mem_of_getElem? (i := 80) rfl)
theorem w81 {Z : State} {a0 : Array Value} (hw : ∀ d ∈ tables_1, d.before a0 Z = true) : ((Jvm.Cond.declares ({ cls := "com/example/sluicegate/sluicegate/job/MetricReport", name := "count", desc := "()J" } : Jvm.MethodName))).before a0 Z = true := hw _ (List.mem_of_getElem? (i := 81) rfl)
theorem w82 {Z : State} {a0 : Array Value} (hw : ∀ d ∈ tables_1, d.before a0 Z = true) : ((Jvm.Cond.instanceMethod ({ cls := "com/example/sluicegate/sluicegate/job/MetricReport", name := "count", desc := "()J" } : Jvm.MethodName))).before a0 Z = true := hw _ (List.mem_of_getElem? (i := 82) rfl)
theorem w83 {Z : State} {a0 : Array Value} (hw : ∀ d ∈ tables_1, d.before a0 Z = true) : ((Jvm.Cond.selects "com/example/sluicegate/sluicegate/job/MetricReport" ({ cls := "com/example/sluicegate/sluicegate/job/MetricReport", name := "count", desc := "()J" } : Jvm.MethodName) ({ cls := "com/example/sluicegate/sluicegate/job/MetricReport", name := "count", desc := "()J" } : Jvm.MethodName))).before a0 Z = true := hw _ (List.mem_of_getElem? (i := 83) rfl)
theorem w84 {Z : State} {a0 : Array Value} (hw : ∀ d ∈ tables_1, d.before a0 Z = true) : ((Jvm.Cond.code ({ cls := "com/example/sluicegate/sluicegate/job/MetricReport", name := "count", desc := "()J" } : Jvm.MethodName) prog_16_method_7_code (1 : Nat) (Option.some Jvm.ClassFile.FieldType.long))).before a0 Z = true := hw _ (List.mem_of_getElem? (i := 84) rfl)
theorem w85 {Z : State} {a0 : Array Value} (hw : ∀ d ∈ tables_1, d.before a0 Z = true) : ((Jvm.Cond.methodLink "com/example/sluicegate/sluicegate/job/MetricReportMeterPinLaw" (43 : Nat) ({ cls := "com/example/sluicegate/sluicegate/job/MetricReport", name := "timestamp", desc := "()J" } : Jvm.MethodName))).before a0 Z = true := hw _ (List.mem_of_getElem? (i := 85) rfl)
theorem w86 {Z : State} {a0 : Array Value} (hw : ∀ d ∈ tables_1, d.before a0 Z = true) : ((Jvm.Cond.declares ({ cls := "com/example/sluicegate/sluicegate/job/MetricReport", name := "timestamp", desc := "()J" } : Jvm.MethodName))).before a0 Z = true := hw _ (List.mem_of_getElem? (i := 86) rfl)
theorem w87 {Z : State} {a0 : Array Value} (hw : ∀ d ∈ tables_1, d.before a0 Z = true) : ((Jvm.Cond.instanceMethod ({ cls := "com/example/sluicegate/sluicegate/job/MetricReport", name := "timestamp", desc := "()J" } : Jvm.MethodName))).before a0 Z = true := hw _ (List.mem_of_getElem? (i := 87) rfl)
theorem w88 {Z : State} {a0 : Array Value} (hw : ∀ d ∈ tables_1, d.before a0 Z = true) : ((Jvm.Cond.selects "com/example/sluicegate/sluicegate/job/MetricReport" ({ cls := "com/example/sluicegate/sluicegate/job/MetricReport", name := "timestamp", desc := "()J" } : Jvm.MethodName) ({ cls := "com/example/sluicegate/sluicegate/job/MetricReport", name := "timestamp", desc := "()J" } : Jvm.MethodName))).before a0 Z = true := hw _ (List.mem_of_getElem? (i := 88) rfl)
theorem w89 {Z : State} {a0 : Array Value} (hw : ∀ d ∈ tables_1, d.before a0 Z = true) : ((Jvm.Cond.code ({ cls := "com/example/sluicegate/sluicegate/job/MetricReport", name := "timestamp", desc := "()J" } : Jvm.MethodName) prog_16_method_11_code (1 : Nat) (Option.some Jvm.ClassFile.FieldType.long))).before a0 Z = true := hw _ (List.mem_of_getElem? (i := 89) rfl)
theorem w90 {Z : State} {a0 : Array Value} (hw : ∀ d ∈ tables_1, d.before a0 Z = true) : ((Jvm.Cond.methodLink "com/example/sluicegate/sluicegate/job/MetricReportMeterPinLaw" (46 : Nat) ({ cls := "com/example/sluicegate/sluicegate/job/MetricReport", name := "tags", desc := "()Ljava/util/Map;" } : Jvm.MethodName))).before a0 Z = true := hw _ (List.mem_of_getElem? (i := 90) rfl)
theorem w91 {Z : State} {a0 : Array Value} (hw : ∀ d ∈ tables_1, d.before a0 Z = true) : ((Jvm.Cond.declares ({ cls := "com/example/sluicegate/sluicegate/job/MetricReport", name := "tags", desc := "()Ljava/util/Map;" } : Jvm.MethodName))).before a0 Z = true := hw _ (List.mem_of_getElem? (i := 91) rfl)
theorem w92 {Z : State} {a0 : Array Value} (hw : ∀ d ∈ tables_1, d.before a0 Z = true) : ((Jvm.Cond.instanceMethod ({ cls := "com/example/sluicegate/sluicegate/job/MetricReport", name := "tags", desc := "()Ljava/util/Map;" } : Jvm.MethodName))).before a0 Z = true := hw _ (List.mem_of_getElem? (i := 92) rfl)
theorem w93 {Z : State} {a0 : Array Value} (hw : ∀ d ∈ tables_1, d.before a0 Z = true) : ((Jvm.Cond.selects "com/example/sluicegate/sluicegate/job/MetricReport" ({ cls := "com/example/sluicegate/sluicegate/job/MetricReport", name := "tags", desc := "()Ljava/util/Map;" } : Jvm.MethodName) ({ cls := "com/example/sluicegate/sluicegate/job/MetricReport", name := "tags", desc := "()Ljava/util/Map;" } : Jvm.MethodName))).before a0 Z = true := hw _ (List.mem_of_getElem? (i := 93) rfl)
theorem w94 {Z : State} {a0 : Array Value} (hw : ∀ d ∈ tables_1, d.before a0 Z = true) : ((Jvm.Cond.code ({ cls := "com/example/sluicegate/sluicegate/job/MetricReport", name := "tags", desc := "()Ljava/util/Map;" } : Jvm.MethodName) prog_16_method_10_code (1 : Nat) (Option.some (Jvm.ClassFile.FieldType.object "java/util/Map")))).before a0 Z = true := hw _ (List.mem_of_getElem? (i := 94) rfl)
theorem w95 {Z : State} {a0 : Array Value} (hw : ∀ d ∈ tables_1, d.before a0 Z = true) : ((Jvm.Cond.methodLink "com/example/sluicegate/sluicegate/job/MetricReportMeterPinLaw" (50 : Nat) ({ cls := "com/example/sluicegate/sluicegate/job/MetricReport", name := "mean", desc := "()Ljava/time/Duration;" } : Jvm.MethodName))).before a0 Z = true := hw _ (List.mem_of_getElem? (i := 95) rfl)
theorem w96 {Z : State} {a0 : Array Value} (hw : ∀ d ∈ tables_1, d.before a0 Z = true) : ((Jvm.Cond.declares ({ cls := "com/example/sluicegate/sluicegate/job/MetricReport", name := "mean", desc := "()Ljava/time/Duration;" } : Jvm.MethodName))).before a0 Z = true := hw _ (List.mem_of_getElem? (i := 96) rfl)
theorem w97 {Z : State} {a0 : Array Value} (hw : ∀ d ∈ tables_1, d.before a0 Z = true) : ((Jvm.Cond.instanceMethod ({ cls := "com/example/sluicegate/sluicegate/job/MetricReport", name := "mean", desc := "()Ljava/time/Duration;" } : Jvm.MethodName))).before a0 Z = true := hw _ (List.mem_of_getElem? (i := 97) rfl)
theorem w98 {Z : State} {a0 : Array Value} (hw : ∀ d ∈ tables_1, d.before a0 Z = true) : ((Jvm.Cond.selects "com/example/sluicegate/sluicegate/job/MetricReport" ({ cls := "com/example/sluicegate/sluicegate/job/MetricReport", name := "mean", desc := "()Ljava/time/Duration;" } : Jvm.MethodName) ({ cls := "com/example/sluicegate/sluicegate/job/MetricReport", name := "mean", desc := "()Ljava/time/Duration;" } : Jvm.MethodName))).before a0 Z = true := hw _ (List.mem_of_getElem? (i := 98) rfl)
theorem w99 {Z : State} {a0 : Array Value} (hw : ∀ d ∈ tables_1, d.before a0 Z = true) : ((Jvm.Cond.code ({ cls := "com/example/sluicegate/sluicegate/job/MetricReport", name := "mean", desc := "()Ljava/time/Duration;" } : Jvm.MethodName) prog_16_method_8_code (1 : Nat) (Option.some (Jvm.ClassFile.FieldType.object "java/time/Duration")))).before a0 Z = true := hw _ (List.mem_of_getElem? (i := 99) rfl)
theorem w100 {Z : State} {a0 : Array Value} (hw : ∀ d ∈ tables_1, d.before a0 Z = true) : ((Jvm.Cond.methodLink "com/example/sluicegate/sluicegate/job/MetricReportMeterPinLaw" (54 : Nat) ({ cls := "com/example/sluicegate/sluicegate/job/MetricReport", name := "max", desc := "()Ljava/time/Duration;" } : Jvm.MethodName))).before a0 Z = true := hw _ (List.mem_of_getElem? (i := 100) rfl)
theorem w101 {Z : State} {a0 : Array Value} (hw : ∀ d ∈ tables_1, d.before a0 Z = true) : ((Jvm.Cond.declares ({ cls := "com/example/sluicegate/sluicegate/job/MetricReport", name := "max", desc := "()Ljava/time/Duration;" } : Jvm.MethodName))).before a0 Z = true := hw _ (List.mem_of_getElem? (i := 101) rfl)
theorem w102 {Z : State} {a0 : Array Value} (hw : ∀ d ∈ tables_1, d.before a0 Z = true) : ((Jvm.Cond.instanceMethod ({ cls := "com/example/sluicegate/sluicegate/job/MetricReport", name := "max", desc := "()Ljava/time/Duration;" } : Jvm.MethodName))).before a0 Z = true := hw _ (List.mem_of_getElem? (i := 102) rfl)
theorem w103 {Z : State} {a0 : Array Value} (hw : ∀ d ∈ tables_1, d.before a0 Z = true) : ((Jvm.Cond.selects "com/example/sluicegate/sluicegate/job/MetricReport" ({ cls := "com/example/sluicegate/sluicegate/job/MetricReport", name := "max", desc := "()Ljava/time/Duration;" } : Jvm.MethodName) ({ cls := "com/example/sluicegate/sluicegate/job/MetricReport", name := "max", desc := "()Ljava/time/Duration;" } : Jvm.MethodName))).before a0 Z = true := hw _ (List.mem_of_getElem? (i := 103) rfl)
theorem w104 {Z : State} {a0 : Array Value} (hw : ∀ d ∈ tables_1, d.before a0 Z = true) : ((Jvm.Cond.code ({ cls := "com/example/sluicegate/sluicegate/job/MetricReport", name := "max", desc := "()Ljava/time/Duration;" } : Jvm.MethodName) prog_16_method_9_code (1 : Nat) (Option.some (Jvm.ClassFile.FieldType.object "java/time/Duration")))).before a0 Z = true := hw _ (List.mem_of_getElem? (i := 104) rfl)
theorem w105 {Z : State} {a0 : Array Value} (hw : ∀ d ∈ tables_1, d.before a0 Z = true) : ((Jvm.Cond.stringLink "java/lang/String" (7 : Nat) "")).before a0 Z = true := hw _ (List.mem_of_getElem? (i := 105) rfl)
theorem d1_0 : decode jdk_42_method_3_code 0 = .ok (.aload_n 0, 1) := by decide +kernel
theorem d1_1 : decode jdk_42_method_3_code 1 = .ok (.aload_n 1, 1) := by decide +kernel
theorem d1_2 : decode jdk_42_method_3_code 2 = .ok (.iconst 0, 1) := by decide +kernel
theorem d1_3 : decode jdk_42_method_3_code 3 = .ok (.aload_n 1, 1) := by decide +kernel
theorem d1_4 : decode jdk_42_method_3_code 4 = .ok (.arraylength, 1) := by decide +kernel
theorem d1_5 : decode jdk_42_method_3_code 5 = .ok (.aconst_null, 1) := by decide +kernel
theorem d1_6 : decode jdk_42_method_3_code 6 = .ok (.invokespecial 27, 3) := by decide +kernel
theorem d1_9 : decode jdk_42_method_3_code 9 = .ok (.return_, 1) := by decide +kernel
theorem d2_0 : decode jdk_42_method_149_code 0 = .ok (.aload_n 0, 1) := by decide +kernel
theorem d2_1 : decode jdk_42_method_149_code 1 = .ok (.invokespecial 1, 3) := by decide +kernel
theorem d2_4 : decode jdk_42_method_149_code 4 = .ok (.iload_n 3, 1) := by decide +kernel
theorem d2_5 : decode jdk_42_method_149_code 5 = .ok (.ifCond .ne 22, 3) := by decide +kernel
theorem d2_8 : decode jdk_42_method_149_code 8 = .ok (.aload_n 0, 1) := by decide +kernel
theorem d2_9 : decode jdk_42_method_149_code 9 = .ok (.ldc 7, 2) := by decide +kernel
theorem d2_11 : decode jdk_42_method_149_code 11 = .ok (.getfield 9, 3) := by decide +kernel
theorem d2_14 : decode jdk_42_method_149_code 14 = .ok (.putfield 9, 3) := by decide +kernel
theorem d2_17 : decode jdk_42_method_149_code 17 = .ok (.aload_n 0, 1) := by decide +kernel
theorem d2_18 : decode jdk_42_method_149_code 18 = .ok (.ldc 7, 2) := by decide +kernel
theorem d2_20 : decode jdk_42_method_149_code 20 = .ok (.getfield 15, 3) := by decide +kernel
theorem d2_23 : decode jdk_42_method_149_code 23 = .ok (.putfield 15, 3) := by decide +kernel
theorem d2_26 : decode jdk_42_method_149_code 26 = .ok (.return_, 1) := by decide +kernel
theorem d7_0 : decode prog_16_method_3_code 0 = .ok (.new 8, 3) := by decide +kernel
theorem d7_3 : decode prog_16_method_3_code 3 = .ok (.dup, 1) := by decide +kernel
theorem d7_4 : decode prog_16_method_3_code 4 = .ok (.aload_n 0, 1) := by decide +kernel
theorem d7_5 : decode prog_16_method_3_code 5 = .ok (.getstatic 48, 3) := by decide +kernel
theorem d7_8 : decode prog_16_method_3_code 8 = .ok (.lload_n 1, 1) := by decide +kernel
theorem d7_9 : decode prog_16_method_3_code 9 = .ok (.getstatic 40, 3) := by decide +kernel
theorem d7_12 : decode prog_16_method_3_code 12 = .ok (.getstatic 40, 3) := by decide +kernel
theorem d7_15 : decode prog_16_method_3_code 15 = .ok (.aload_n 3, 1) := by decide +kernel
theorem d7_16 : decode prog_16_method_3_code 16 = .ok (.lload 4, 2) := by decide +kernel
theorem d7_18 : decode prog_16_method_3_code 18 = .ok (.invokespecial 45, 3) := by decide +kernel
theorem d7_21 : decode prog_16_method_3_code 21 = .ok (.areturn, 1) := by decide +kernel
theorem d8_0 : decode prog_16_method_1_code 0 = .ok (.aload_n 0, 1) := by decide +kernel
theorem d8_1 : decode prog_16_method_1_code 1 = .ok (.invokespecial 1, 3) := by decide +kernel
theorem d8_4 : decode prog_16_method_1_code 4 = .ok (.aload_n 0, 1) := by decide +kernel
theorem d8_5 : decode prog_16_method_1_code 5 = .ok (.aload_n 1, 1) := by decide +kernel
theorem d8_6 : decode prog_16_method_1_code 6 = .ok (.putfield 7, 3) := by decide +kernel
theorem d8_9 : decode prog_16_method_1_code 9 = .ok (.aload_n 0, 1) := by decide +kernel
theorem d8_10 : decode prog_16_method_1_code 10 = .ok (.aload_n 2, 1) := by decide +kernel
theorem d8_11 : decode prog_16_method_1_code 11 = .ok (.putfield 13, 3) := by decide +kernel
theorem d8_14 : decode prog_16_method_1_code 14 = .ok (.aload_n 0, 1) := by decide +kernel
theorem d8_15 : decode prog_16_method_1_code 15 = .ok (.lload_n 3, 1) := by decide +kernel
theorem d8_16 : decode prog_16_method_1_code 16 = .ok (.putfield 17, 3) := by decide +kernel
theorem d8_19 : decode prog_16_method_1_code 19 = .ok (.aload_n 0, 1) := by decide +kernel
theorem d8_20 : decode prog_16_method_1_code 20 = .ok (.aload 5, 2) := by decide +kernel
theorem d8_22 : decode prog_16_method_1_code 22 = .ok (.putfield 21, 3) := by decide +kernel
theorem d8_25 : decode prog_16_method_1_code 25 = .ok (.aload_n 0, 1) := by decide +kernel
theorem d8_26 : decode prog_16_method_1_code 26 = .ok (.aload 6, 2) := by decide +kernel
theorem d8_28 : decode prog_16_method_1_code 28 = .ok (.putfield 25, 3) := by decide +kernel
theorem d8_31 : decode prog_16_method_1_code 31 = .ok (.aload_n 0, 1) := by decide +kernel
theorem d8_32 : decode prog_16_method_1_code 32 = .ok (.aload 7, 2) := by decide +kernel
theorem d8_34 : decode prog_16_method_1_code 34 = .ok (.putfield 28, 3) := by decide +kernel
theorem d8_37 : decode prog_16_method_1_code 37 = .ok (.aload_n 0, 1) := by decide +kernel
theorem d8_38 : decode prog_16_method_1_code 38 = .ok (.lload 8, 2) := by decide +kernel
theorem d8_40 : decode prog_16_method_1_code 40 = .ok (.putfield 32, 3) := by decide +kernel
theorem d8_43 : decode prog_16_method_1_code 43 = .ok (.return_, 1) := by decide +kernel
theorem d9_0 : decode prog_16_method_2_code 0 = .ok (.new 8, 3) := by decide +kernel
theorem d9_3 : decode prog_16_method_2_code 3 = .ok (.dup, 1) := by decide +kernel
theorem d9_4 : decode prog_16_method_2_code 4 = .ok (.aload_n 0, 1) := by decide +kernel
theorem d9_5 : decode prog_16_method_2_code 5 = .ok (.getstatic 35, 3) := by decide +kernel
theorem d9_8 : decode prog_16_method_2_code 8 = .ok (.lload_n 1, 1) := by decide +kernel
theorem d9_9 : decode prog_16_method_2_code 9 = .ok (.getstatic 40, 3) := by decide +kernel
theorem d9_12 : decode prog_16_method_2_code 12 = .ok (.getstatic 40, 3) := by decide +kernel
theorem d9_15 : decode prog_16_method_2_code 15 = .ok (.aload_n 3, 1) := by decide +kernel
theorem d9_16 : decode prog_16_method_2_code 16 = .ok (.lload 4, 2) := by decide +kernel
theorem d9_18 : decode prog_16_method_2_code 18 = .ok (.invokespecial 45, 3) := by decide +kernel
theorem d9_21 : decode prog_16_method_2_code 21 = .ok (.areturn, 1) := by decide +kernel
theorem d10_0 : decode prog_16_method_5_code 0 = .ok (.aload_n 0, 1) := by decide +kernel
theorem d10_1 : decode prog_16_method_5_code 1 = .ok (.getfield 7, 3) := by decide +kernel
theorem d10_4 : decode prog_16_method_5_code 4 = .ok (.areturn, 1) := by decide +kernel
theorem d11_0 : decode jdk_42_method_66_code 0 = .ok (.aload_n 0, 1) := by decide +kernel
theorem d11_1 : decode jdk_42_method_66_code 1 = .ok (.aload_n 1, 1) := by decide +kernel
theorem d11_2 : decode jdk_42_method_66_code 2 = .ok (.if_acmp .ne 5, 3) := by decide +kernel
theorem d11_5 : decode jdk_42_method_66_code 5 = .ok (.iconst 1, 1) := by decide +kernel
theorem d11_6 : decode jdk_42_method_66_code 6 = .ok (.ireturn, 1) := by decide +kernel
theorem d12_0 : decode prog_16_method_6_code 0 = .ok (.aload_n 0, 1) := by decide +kernel
theorem d12_1 : decode prog_16_method_6_code 1 = .ok (.getfield 13, 3) := by decide +kernel
theorem d12_4 : decode prog_16_method_6_code 4 = .ok (.areturn, 1) := by decide +kernel
theorem d13_0 : decode prog_16_method_7_code 0 = .ok (.aload_n 0, 1) := by decide +kernel
theorem d13_1 : decode prog_16_method_7_code 1 = .ok (.getfield 17, 3) := by decide +kernel
theorem d13_4 : decode prog_16_method_7_code 4 = .ok (.lreturn, 1) := by decide +kernel
theorem d14_0 : decode prog_16_method_11_code 0 = .ok (.aload_n 0, 1) := by decide +kernel
theorem d14_1 : decode prog_16_method_11_code 1 = .ok (.getfield 32, 3) := by decide +kernel
theorem d14_4 : decode prog_16_method_11_code 4 = .ok (.lreturn, 1) := by decide +kernel
theorem d15_0 : decode prog_16_method_10_code 0 = .ok (.aload_n 0, 1) := by decide +kernel
theorem d15_1 : decode prog_16_method_10_code 1 = .ok (.getfield 28, 3) := by decide +kernel
theorem d15_4 : decode prog_16_method_10_code 4 = .ok (.areturn, 1) := by decide +kernel
theorem d16_0 : decode prog_16_method_8_code 0 = .ok (.aload_n 0, 1) := by decide +kernel
theorem d16_1 : decode prog_16_method_8_code 1 = .ok (.getfield 21, 3) := by decide +kernel
theorem d16_4 : decode prog_16_method_8_code 4 = .ok (.areturn, 1) := by decide +kernel
theorem d17_0 : decode prog_16_method_9_code 0 = .ok (.aload_n 0, 1) := by decide +kernel
theorem d17_1 : decode prog_16_method_9_code 1 = .ok (.getfield 25, 3) := by decide +kernel
theorem d17_4 : decode prog_16_method_9_code 4 = .ok (.areturn, 1) := by decide +kernel
theorem pd0 : parseMethodDescriptor "([CIILjava/lang/Void;)V" = some ⟨[(.array .char), .int, .int, (.object "java/lang/Void")], none⟩ := by decide +kernel
theorem pd1 : parseMethodDescriptor "([C)V" = some ⟨[(.array .char)], none⟩ := by decide +kernel
theorem pd2 : parseMethodDescriptor "(Ljava/lang/String;Lcom/example/sluicegate/sluicegate/job/MetricReport$Type;JLjava/time/Duration;Ljava/time/Duration;Ljava/util/Map;J)V" = some ⟨[(.object "java/lang/String"), (.object "com/example/sluicegate/sluicegate/job/MetricReport$Type"), .long, (.object "java/time/Duration"), (.object "java/time/Duration"), (.object "java/util/Map"), .long], none⟩ := by decide +kernel
theorem pd3 : parseMethodDescriptor "(Ljava/lang/String;JLjava/util/Map;J)Lcom/example/sluicegate/sluicegate/job/MetricReport;" = some ⟨[(.object "java/lang/String"), .long, (.object "java/util/Map"), .long], some (.object "com/example/sluicegate/sluicegate/job/MetricReport")⟩ := by decide +kernel
theorem pd4 : parseMethodDescriptor "()Ljava/lang/String;" = some ⟨[], some (.object "java/lang/String")⟩ := by decide +kernel
theorem pd5 : parseMethodDescriptor "(Ljava/lang/Object;)Z" = some ⟨[(.object "java/lang/Object")], some .boolean⟩ := by decide +kernel
theorem pd6 : parseMethodDescriptor "()Lcom/example/sluicegate/sluicegate/job/MetricReport$Type;" = some ⟨[], some (.object "com/example/sluicegate/sluicegate/job/MetricReport$Type")⟩ := by decide +kernel
theorem pd7 : parseMethodDescriptor "()J" = some ⟨[], some .long⟩ := by decide +kernel
theorem pd8 : parseMethodDescriptor "()Ljava/util/Map;" = some ⟨[], some (.object "java/util/Map")⟩ := by decide +kernel
theorem pd9 : parseMethodDescriptor "()Ljava/time/Duration;" = some ⟨[], some (.object "java/time/Duration")⟩ := by decide +kernel
theorem pn0 : plainName "java/lang/String" = true := by first | (simp [plainName, overriddenIn]; done) | decide +kernel
theorem pn1 : plainName "com/example/sluicegate/sluicegate/job/MetricReport" = true := by first | (simp [plainName, overriddenIn]; done) | decide +kernel
theorem pn2 : plainName "com/example/sluicegate/sluicegate/job/MetricReportMeterPinLaw" = true := by first | (simp [plainName, overriddenIn]; done) | decide +kernel
theorem rm1 (l : Launch) (Z : State) (a0 : Array Value) (hw : ∀ d ∈ tables_1, d.before a0 Z = true) (a1 a2 : Addr) (h0 : Heap) (O0 : Old Z Z.heap.size h0) (E_a1 : Exa Z h0 a1 "java/lang/String") (F_a1_value : Fld Z h0 a1 "java/lang/String" "value" "[B" .null) (g_a1 : Z.heap.size ≤ a1) (F_a1_coder : Fld Z h0 a1 "java/lang/String" "coder" "B" (.int 0)) :
    CtrW l Z consts_1 (⟨"java/lang/String", "<init>", "([CIILjava/lang/Void;)V"⟩ : MethodName) jdk_42_method_149_code 6 none [] (⟨1, 4, 8, 12⟩ : Room) #[(.ref a1), (.ref a2), (.int 0), (.int 0), .null] h0 [a1] (fun v h => ∃ r1 : Addr, ∃ r2 : ClassId, Fld Z h a1 "java/lang/String" "value" "[B" (.ref r1) ∧ Fld Z h a1 "java/lang/String" "coder" "B" (.int 0) ∧ Arv Z h r1 r2 .byte (0 : Int32) [] (.int 0) ∧ v = none) := by
  refine CtrW.intro (L0 := #[.val (.ref a1), .val (.ref a2), .val (.int 0), .val (.int 0), .val .null, .unset]) (plainFor_of_name pn0) O0 (fun m => by first | rfl | (simp [entryFrame, mkF, argsToLocals, Value.category]; done)) ?_
  intro p e s m below meth c T0 V0 hy hml hret hlk hnm W0
  refine o_aloadN W0 (pc' := 1) (hb hy d2_0) rfl rfl rfl ?_
  refine o_initO W0 (w11 hw) (w12 hw) (w13 hw) (by rw [hml]; rfl) (pc' := 4) (hb hy d2_1) rfl (by decide) 0 (by exact Nat.le_of_eq rfl) (by decide) ?_
  intro T1 W1
  refine o_iloadN W1 (pc' := 5) (hb hy d2_4) rfl rfl ?_
  refine o_ifN W1 (pc' := 8) (hb hy d2_5) (XT.i0_ne_f (by decide)) rfl ?_
  refine o_aloadN W1 (pc' := 9) (hb hy d2_8) rfl rfl rfl ?_
  refine o_ldcR W1 (w105 hw) (own_wS hw) (own_EL hw) (by simp [consts_1]) (pc' := 11) (hb hy d2_9) rfl (n := 0) (by decide) (by decide) (cells' := 2) (slots' := 4) rfl rfl (by decide) (by decide) (vs := []) (z := (0 : Int32)) ⟨by decide, by decide⟩ (by decide) (by decide) ?_
  intro s2 T2 h2 V2 t2 k2 W2 E2 C2 X2 Fc2 Fv2 A2 ns2
  refine o_getF W2 (w28 hw) Via.refl Fv2 (pc' := 14) (hb hy d2_11) rfl ?_
  intro T3 W3
  have c4 := (E_a1.ext E2)
  have c5 := (F_a1_value.ext E2)
  have sf6 := own_safeS (EL := consts_1) W3.al c4 c5
  refine o_putF W3 (w28 hw) Via.refl c5 c4 (Or.inr ⟨(w29 hw), rfl, hnm⟩) (w2 hw) (ty := (.array .byte)) (v' := (.ref t2)) (by decide) rfl rfl g_a1 (Or.inl (List.mem_of_getElem? (i := 0) rfl)) (fun _ R => IW.wr R sf6 W3.inv) (pc' := 17) (hb hy d2_14) rfl ?_
  intro T7 h7 lo7 W7 R7
  have F7 := c5.same R7
  refine o_aloadN W7 (pc' := 18) (hb hy d2_17) rfl rfl rfl ?_
  refine o_ldcR W7 (w105 hw) (own_wS hw) (own_EL hw) (by simp [consts_1]) (pc' := 20) (hb hy d2_18) rfl (n := 0) (by decide) (by decide) (cells' := 4) (slots' := 8) rfl rfl (by decide) (by decide) (vs := []) (z := (0 : Int32)) ⟨by decide, by decide⟩ (by decide) (by decide) ?_
  intro s8 T8 h8 V8 t8 k8 W8 E8 C8 X8 Fc8 Fv8 A8 ns8
  refine o_getF W8 (w26 hw) Via.refl Fc8 (pc' := 23) (hb hy d2_20) rfl ?_
  intro T9 W9
  have c10 := ((c4.wr R7).ext E8)
  have c11 := (((F_a1_coder.ext E2).other R7 (Or.inr (slot_ne (Or.inr (w27 hw)) (Or.inr (w29 hw)) (by decide) (t := .byte) (t' := (.array .byte)) (by decide) (by decide)))).ext E8)
  have c12 := (c4.wr R7)
  have c13 := (CHr.safe C8 c12.lt (Safe.wr R7 sf6 W3.inv.2.1 sf6))
  refine o_putF W9 (w26 hw) Via.refl c11 c10 (Or.inr ⟨(w27 hw), rfl, hnm⟩) (w2 hw) (ty := .byte) (v' := (.int 0)) (by decide) rfl (by decide) g_a1 (Or.inl (List.mem_of_getElem? (i := 0) rfl)) (fun _ R => IW.wr R c13 W9.inv) (pc' := 26) (hb hy d2_23) rfl ?_
  intro T14 h14 lo14 W14 R14
  have F14 := c11.same R14
  have c15 := ((F7.ext E8).other R14 (Or.inr (slot_ne (Or.inr (w29 hw)) (Or.inr (w27 hw)) (by decide) (t := (.array .byte)) (t' := .byte) (by decide) (by decide))))
  have c16 := (c10.wr R14)
  have c17 := (((A2.other R7 (Ne.symm (ns2 _ sf6).2)).ext E8).other R14 (Ne.symm (ns2 _ sf6).2))
  exact o_ret0W W14 (own_EL hw) hlk hret (hb hy d2_26) (by decide) (by decide) ⟨t2, k2, c15, F14, c17, rfl⟩
theorem rm2 (l : Launch) (Z : State) (a0 : Array Value) (hw : ∀ d ∈ tables_1, d.before a0 Z = true) (a1 a2 : Addr) (k_a2 : ClassId) (h0 : Heap) (O0 : Old Z Z.heap.size h0) (V_a2 : Arv Z h0 a2 k_a2 .char (0 : Int32) [] (.int 0)) (E_a1 : Exa Z h0 a1 "java/lang/String") (F_a1_value : Fld Z h0 a1 "java/lang/String" "value" "[B" .null) (F_a1_coder : Fld Z h0 a1 "java/lang/String" "coder" "B" (.int 0)) (g_a1 : Z.heap.size ≤ a1) :
    CtrW l Z consts_1 (⟨"java/lang/String", "<init>", "([C)V"⟩ : MethodName) jdk_42_method_3_code 2 none [] (⟨2, 4, 8, 29⟩ : Room) #[(.ref a1), (.ref a2)] h0 [a1] (fun v h => ∃ r1 : Addr, ∃ r2 : ClassId, Fld Z h a1 "java/lang/String" "value" "[B" (.ref r1) ∧ Fld Z h a1 "java/lang/String" "coder" "B" (.int 0) ∧ Arv Z h r1 r2 .byte (0 : Int32) [] (.int 0) ∧ v = none) := by
  refine CtrW.intro (L0 := #[.val (.ref a1), .val (.ref a2)]) (plainFor_of_name pn0) O0 (fun m => by first | rfl | (simp [entryFrame, mkF, argsToLocals, Value.category]; done)) ?_
  intro p e s m below meth c T0 V0 hy hml hret hlk hnm W0
  refine o_aloadN W0 (pc' := 1) (hb hy d1_0) rfl rfl rfl ?_
  refine o_aloadN W0 (pc' := 2) (hb hy d1_1) rfl rfl rfl ?_
  refine o_iconst W0 (v := 0) (pc' := 3) (hb hy d1_2) rfl rfl ?_
  refine o_aloadN W0 (pc' := 4) (hb hy d1_3) rfl rfl rfl ?_
  refine o_len W0 V_a2 (pc' := 5) (hb hy d1_4) rfl ?_
  refine o_aconstNull W0 (pc' := 6) (hb hy d1_5) rfl ?_
  refine o_specialW W0 (y := (⟨"java/lang/String", "<init>", "([CIILjava/lang/Void;)V"⟩ : MethodName)) rfl (w7 hw) (w8 hw) (w10 hw) (by decide) (a := a1) (argsL := [(.ref a2), (.int 0), (.int 0), .null]) (CtrW.back (Wd := 0) W0 (rm1 l Z a0 hw a1 a2 h0 W0.old E_a1 F_a1_value g_a1 F_a1_coder) (w10 hw) (w3 hw) (by decide) (by decide) (own_EL hw)) (by rw [hml]; rfl) (lenOf pd0 rfl) (S := []) rfl (by exact Nat.le_of_eq rfl) (pc' := 9) (hb hy d1_6) rfl (cells' := 4) (slots' := 8) rfl rfl (by decide) (by decide) (wy := [a1]) (fun _ _ _ q => ⟨q.1, q.2.1⟩) (allS ⟨g_a1, (Or.inl (List.mem_of_getElem? (i := 0) rfl))⟩ all0)  ?_
  intro v1 T1 h1 V1 lo1 W1 K1 C1 q1
  obtain ⟨r1_1, r2_1, P1_0, P1_1, P1_2, rfl⟩ := q1.2.2
  show Gl _ _ _ _ _ _ _ _ []
  have c2 := (E_a1.keep K1)
  exact o_ret0W W1 (own_EL hw) hlk hret (hb hy d1_9) (by decide) (by decide) ⟨r1_1, r2_1, P1_0, P1_1, P1_2, rfl⟩
theorem rm3 (l : Launch) (Z : State) (a0 : Array Value) (hw : ∀ d ∈ tables_1, d.before a0 Z = true) (gM gZ a1 a2 : Addr) (y1 y2 : Int64) (h0 : Heap) (O0 : Old Z Z.heap.size h0) (E_a1 : Exa Z h0 a1 "com/example/sluicegate/sluicegate/job/MetricReport") (F_a1_name : Fld Z h0 a1 "com/example/sluicegate/sluicegate/job/MetricReport" "name" "Ljava/lang/String;" .null) (g_a1 : Z.heap.size ≤ a1) (F_a1_type : Fld Z h0 a1 "com/example/sluicegate/sluicegate/job/MetricReport" "type" "Lcom/example/sluicegate/sluicegate/job/MetricReport$Type;" .null) (F_a1_count : Fld Z h0 a1 "com/example/sluicegate/sluicegate/job/MetricReport" "count" "J" (.long (0 : Int64))) (F_a1_mean : Fld Z h0 a1 "com/example/sluicegate/sluicegate/job/MetricReport" "mean" "Ljava/time/Duration;" .null) (F_a1_max : Fld Z h0 a1 "com/example/sluicegate/sluicegate/job/MetricReport" "max" "Ljava/time/Duration;" .null) (F_a1_tags : Fld Z h0 a1 "com/example/sluicegate/sluicegate/job/MetricReport" "tags" "Ljava/util/Map;" .null) (F_a1_timestamp : Fld Z h0 a1 "com/example/sluicegate/sluicegate/job/MetricReport" "timestamp" "J" (.long (0 : Int64))) :
    CtrN l Z (⟨"com/example/sluicegate/sluicegate/job/MetricReport", "<init>", "(Ljava/lang/String;Lcom/example/sluicegate/sluicegate/job/MetricReport$Type;JLjava/time/Duration;Ljava/time/Duration;Ljava/util/Map;J)V"⟩ : MethodName) prog_16_method_1_code 10 none [] (⟨1, 0, 0, 12⟩ : Room) #[(.ref a1), (.ref a2), (.ref gM), (.long y1), (.ref gZ), (.ref gZ), .null, (.long y2)] h0 [a1] (fun v h => Fld Z h a1 "com/example/sluicegate/sluicegate/job/MetricReport" "name" "Ljava/lang/String;" (.ref a2) ∧ Fld Z h a1 "com/example/sluicegate/sluicegate/job/MetricReport" "type" "Lcom/example/sluicegate/sluicegate/job/MetricReport$Type;" (.ref gM) ∧ Fld Z h a1 "com/example/sluicegate/sluicegate/job/MetricReport" "count" "J" (.long y1) ∧ Fld Z h a1 "com/example/sluicegate/sluicegate/job/MetricReport" "mean" "Ljava/time/Duration;" (.ref gZ) ∧ Fld Z h a1 "com/example/sluicegate/sluicegate/job/MetricReport" "max" "Ljava/time/Duration;" (.ref gZ) ∧ Fld Z h a1 "com/example/sluicegate/sluicegate/job/MetricReport" "tags" "Ljava/util/Map;" .null ∧ Fld Z h a1 "com/example/sluicegate/sluicegate/job/MetricReport" "timestamp" "J" (.long y2) ∧ v = none) := by
  refine CtrN.intro (L0 := #[.val (.ref a1), .val (.ref a2), .val (.ref gM), .val (.long y1), .second, .val (.ref gZ), .val (.ref gZ), .val .null, .val (.long y2), .second]) (plainFor_of_name pn1) O0 (fun m => by first | rfl | (simp [entryFrame, mkF, argsToLocals, Value.category]; done)) ?_
  intro p e s m below meth c T0 hy hml hret hlk hnm W0
  refine o_aloadN W0 (pc' := 1) (hb hy d8_0) rfl rfl rfl ?_
  refine o_initO W0 (w44 hw) (w12 hw) (w13 hw) (by rw [hml]; rfl) (pc' := 4) (hb hy d8_1) rfl (by decide) 0 (by exact Nat.le_of_eq rfl) (by decide) ?_
  intro T1 W1
  refine o_aloadN W1 (pc' := 5) (hb hy d8_4) rfl rfl rfl ?_
  refine o_aloadN W1 (pc' := 6) (hb hy d8_5) rfl rfl rfl ?_
  refine o_putF W1 (w45 hw) Via.refl F_a1_name E_a1 (Or.inr ⟨(w46 hw), rfl, hnm⟩) (w35 hw) (ty := (.object "java/lang/String")) (v' := (.ref a2)) (by decide) rfl rfl g_a1 (Or.inl (List.mem_of_getElem? (i := 0) rfl)) (fun _ _ => trivial) (pc' := 9) (hb hy d8_6) rfl ?_
  intro T2 h2 lo2 W2 R2
  have F2 := F_a1_name.same R2
  refine o_aloadN W2 (pc' := 10) (hb hy d8_9) rfl rfl rfl ?_
  refine o_aloadN W2 (pc' := 11) (hb hy d8_10) rfl rfl rfl ?_
  have c3 := (E_a1.wr R2)
  have c4 := (F_a1_type.other R2 (Or.inr (slot_ne (Or.inr (w48 hw)) (Or.inr (w46 hw)) (by decide) (t := (.object "com/example/sluicegate/sluicegate/job/MetricReport$Type")) (t' := (.object "java/lang/String")) (by decide) (by decide))))
  refine o_putF W2 (w47 hw) Via.refl c4 c3 (Or.inr ⟨(w48 hw), rfl, hnm⟩) (w35 hw) (ty := (.object "com/example/sluicegate/sluicegate/job/MetricReport$Type")) (v' := (.ref gM)) (by decide) rfl rfl g_a1 (Or.inl (List.mem_of_getElem? (i := 0) rfl)) (fun _ _ => trivial) (pc' := 14) (hb hy d8_11) rfl ?_
  intro T5 h5 lo5 W5 R5
  have F5 := c4.same R5
  refine o_aloadN W5 (pc' := 15) (hb hy d8_14) rfl rfl rfl ?_
  refine o_lloadN W5 (pc' := 16) (hb hy d8_15) rfl rfl ?_
  have c6 := (c3.wr R5)
  have c7 := ((F_a1_count.other R2 (Or.inr (slot_ne (Or.inr (w50 hw)) (Or.inr (w46 hw)) (by decide) (t := .long) (t' := (.object "java/lang/String")) (by decide) (by decide)))).other R5 (Or.inr (slot_ne (Or.inr (w50 hw)) (Or.inr (w48 hw)) (by decide) (t := .long) (t' := (.object "com/example/sluicegate/sluicegate/job/MetricReport$Type")) (by decide) (by decide))))
  refine o_putF W5 (w49 hw) Via.refl c7 c6 (Or.inr ⟨(w50 hw), rfl, hnm⟩) (w35 hw) (ty := .long) (v' := (.long y1)) (by decide) rfl rfl g_a1 (Or.inl (List.mem_of_getElem? (i := 0) rfl)) (fun _ _ => trivial) (pc' := 19) (hb hy d8_16) rfl ?_
  intro T8 h8 lo8 W8 R8
  have F8 := c7.same R8
  refine o_aloadN W8 (pc' := 20) (hb hy d8_19) rfl rfl rfl ?_
  refine o_aload W8 (pc' := 22) (hb hy d8_20) rfl rfl rfl ?_
  have c9 := (c6.wr R8)
  have c10 := (((F_a1_mean.other R2 (Or.inr (slot_ne (Or.inr (w52 hw)) (Or.inr (w46 hw)) (by decide) (t := (.object "java/time/Duration")) (t' := (.object "java/lang/String")) (by decide) (by decide)))).other R5 (Or.inr (slot_ne (Or.inr (w52 hw)) (Or.inr (w48 hw)) (by decide) (t := (.object "java/time/Duration")) (t' := (.object "com/example/sluicegate/sluicegate/job/MetricReport$Type")) (by decide) (by decide)))).other R8 (Or.inr (slot_ne (Or.inr (w52 hw)) (Or.inr (w50 hw)) (by decide) (t := (.object "java/time/Duration")) (t' := .long) (by decide) (by decide))))
  refine o_putF W8 (w51 hw) Via.refl c10 c9 (Or.inr ⟨(w52 hw), rfl, hnm⟩) (w35 hw) (ty := (.object "java/time/Duration")) (v' := (.ref gZ)) (by decide) rfl rfl g_a1 (Or.inl (List.mem_of_getElem? (i := 0) rfl)) (fun _ _ => trivial) (pc' := 25) (hb hy d8_22) rfl ?_
  intro T11 h11 lo11 W11 R11
  have F11 := c10.same R11
  refine o_aloadN W11 (pc' := 26) (hb hy d8_25) rfl rfl rfl ?_
  refine o_aload W11 (pc' := 28) (hb hy d8_26) rfl rfl rfl ?_
  have c12 := (c9.wr R11)
  have c13 := ((((F_a1_max.other R2 (Or.inr (slot_ne (Or.inr (w54 hw)) (Or.inr (w46 hw)) (by decide) (t := (.object "java/time/Duration")) (t' := (.object "java/lang/String")) (by decide) (by decide)))).other R5 (Or.inr (slot_ne (Or.inr (w54 hw)) (Or.inr (w48 hw)) (by decide) (t := (.object "java/time/Duration")) (t' := (.object "com/example/sluicegate/sluicegate/job/MetricReport$Type")) (by decide) (by decide)))).other R8 (Or.inr (slot_ne (Or.inr (w54 hw)) (Or.inr (w50 hw)) (by decide) (t := (.object "java/time/Duration")) (t' := .long) (by decide) (by decide)))).other R11 (Or.inr (slot_ne (Or.inr (w54 hw)) (Or.inr (w52 hw)) (by decide) (t := (.object "java/time/Duration")) (t' := (.object "java/time/Duration")) (by decide) (by decide))))
  refine o_putF W11 (w53 hw) Via.refl c13 c12 (Or.inr ⟨(w54 hw), rfl, hnm⟩) (w35 hw) (ty := (.object "java/time/Duration")) (v' := (.ref gZ)) (by decide) rfl rfl g_a1 (Or.inl (List.mem_of_getElem? (i := 0) rfl)) (fun _ _ => trivial) (pc' := 31) (hb hy d8_28) rfl ?_
  intro T14 h14 lo14 W14 R14
  have F14 := c13.same R14
  refine o_aloadN W14 (pc' := 32) (hb hy d8_31) rfl rfl rfl ?_
  refine o_aload W14 (pc' := 34) (hb hy d8_32) rfl rfl rfl ?_
  have c15 := (c12.wr R14)
  have c16 := (((((F_a1_tags.other R2 (Or.inr (slot_ne (Or.inr (w56 hw)) (Or.inr (w46 hw)) (by decide) (t := (.object "java/util/Map")) (t' := (.object "java/lang/String")) (by decide) (by decide)))).other R5 (Or.inr (slot_ne (Or.inr (w56 hw)) (Or.inr (w48 hw)) (by decide) (t := (.object "java/util/Map")) (t' := (.object "com/example/sluicegate/sluicegate/job/MetricReport$Type")) (by decide) (by decide)))).other R8 (Or.inr (slot_ne (Or.inr (w56 hw)) (Or.inr (w50 hw)) (by decide) (t := (.object "java/util/Map")) (t' := .long) (by decide) (by decide)))).other R11 (Or.inr (slot_ne (Or.inr (w56 hw)) (Or.inr (w52 hw)) (by decide) (t := (.object "java/util/Map")) (t' := (.object "java/time/Duration")) (by decide) (by decide)))).other R14 (Or.inr (slot_ne (Or.inr (w56 hw)) (Or.inr (w54 hw)) (by decide) (t := (.object "java/util/Map")) (t' := (.object "java/time/Duration")) (by decide) (by decide))))
  refine o_putF W14 (w55 hw) Via.refl c16 c15 (Or.inr ⟨(w56 hw), rfl, hnm⟩) (w35 hw) (ty := (.object "java/util/Map")) (v' := .null) (by decide) rfl rfl g_a1 (Or.inl (List.mem_of_getElem? (i := 0) rfl)) (fun _ _ => trivial) (pc' := 37) (hb hy d8_34) rfl ?_
  intro T17 h17 lo17 W17 R17
  have F17 := c16.same R17
  refine o_aloadN W17 (pc' := 38) (hb hy d8_37) rfl rfl rfl ?_
  refine o_lload W17 (pc' := 40) (hb hy d8_38) rfl rfl ?_
  have c18 := (c15.wr R17)
  have c19 := ((((((F_a1_timestamp.other R2 (Or.inr (slot_ne (Or.inr (w58 hw)) (Or.inr (w46 hw)) (by decide) (t := .long) (t' := (.object "java/lang/String")) (by decide) (by decide)))).other R5 (Or.inr (slot_ne (Or.inr (w58 hw)) (Or.inr (w48 hw)) (by decide) (t := .long) (t' := (.object "com/example/sluicegate/sluicegate/job/MetricReport$Type")) (by decide) (by decide)))).other R8 (Or.inr (slot_ne (Or.inr (w58 hw)) (Or.inr (w50 hw)) (by decide) (t := .long) (t' := .long) (by decide) (by decide)))).other R11 (Or.inr (slot_ne (Or.inr (w58 hw)) (Or.inr (w52 hw)) (by decide) (t := .long) (t' := (.object "java/time/Duration")) (by decide) (by decide)))).other R14 (Or.inr (slot_ne (Or.inr (w58 hw)) (Or.inr (w54 hw)) (by decide) (t := .long) (t' := (.object "java/time/Duration")) (by decide) (by decide)))).other R17 (Or.inr (slot_ne (Or.inr (w58 hw)) (Or.inr (w56 hw)) (by decide) (t := .long) (t' := (.object "java/util/Map")) (by decide) (by decide))))
  refine o_putF W17 (w57 hw) Via.refl c19 c18 (Or.inr ⟨(w58 hw), rfl, hnm⟩) (w35 hw) (ty := .long) (v' := (.long y2)) (by decide) rfl rfl g_a1 (Or.inl (List.mem_of_getElem? (i := 0) rfl)) (fun _ _ => trivial) (pc' := 43) (hb hy d8_40) rfl ?_
  intro T20 h20 lo20 W20 R20
  have F20 := c19.same R20
  have c21 := ((((((F2.other R5 (Or.inr (slot_ne (Or.inr (w46 hw)) (Or.inr (w48 hw)) (by decide) (t := (.object "java/lang/String")) (t' := (.object "com/example/sluicegate/sluicegate/job/MetricReport$Type")) (by decide) (by decide)))).other R8 (Or.inr (slot_ne (Or.inr (w46 hw)) (Or.inr (w50 hw)) (by decide) (t := (.object "java/lang/String")) (t' := .long) (by decide) (by decide)))).other R11 (Or.inr (slot_ne (Or.inr (w46 hw)) (Or.inr (w52 hw)) (by decide) (t := (.object "java/lang/String")) (t' := (.object "java/time/Duration")) (by decide) (by decide)))).other R14 (Or.inr (slot_ne (Or.inr (w46 hw)) (Or.inr (w54 hw)) (by decide) (t := (.object "java/lang/String")) (t' := (.object "java/time/Duration")) (by decide) (by decide)))).other R17 (Or.inr (slot_ne (Or.inr (w46 hw)) (Or.inr (w56 hw)) (by decide) (t := (.object "java/lang/String")) (t' := (.object "java/util/Map")) (by decide) (by decide)))).other R20 (Or.inr (slot_ne (Or.inr (w46 hw)) (Or.inr (w58 hw)) (by decide) (t := (.object "java/lang/String")) (t' := .long) (by decide) (by decide))))
  have c22 := (((((F5.other R8 (Or.inr (slot_ne (Or.inr (w48 hw)) (Or.inr (w50 hw)) (by decide) (t := (.object "com/example/sluicegate/sluicegate/job/MetricReport$Type")) (t' := .long) (by decide) (by decide)))).other R11 (Or.inr (slot_ne (Or.inr (w48 hw)) (Or.inr (w52 hw)) (by decide) (t := (.object "com/example/sluicegate/sluicegate/job/MetricReport$Type")) (t' := (.object "java/time/Duration")) (by decide) (by decide)))).other R14 (Or.inr (slot_ne (Or.inr (w48 hw)) (Or.inr (w54 hw)) (by decide) (t := (.object "com/example/sluicegate/sluicegate/job/MetricReport$Type")) (t' := (.object "java/time/Duration")) (by decide) (by decide)))).other R17 (Or.inr (slot_ne (Or.inr (w48 hw)) (Or.inr (w56 hw)) (by decide) (t := (.object "com/example/sluicegate/sluicegate/job/MetricReport$Type")) (t' := (.object "java/util/Map")) (by decide) (by decide)))).other R20 (Or.inr (slot_ne (Or.inr (w48 hw)) (Or.inr (w58 hw)) (by decide) (t := (.object "com/example/sluicegate/sluicegate/job/MetricReport$Type")) (t' := .long) (by decide) (by decide))))
  have c23 := ((((F8.other R11 (Or.inr (slot_ne (Or.inr (w50 hw)) (Or.inr (w52 hw)) (by decide) (t := .long) (t' := (.object "java/time/Duration")) (by decide) (by decide)))).other R14 (Or.inr (slot_ne (Or.inr (w50 hw)) (Or.inr (w54 hw)) (by decide) (t := .long) (t' := (.object "java/time/Duration")) (by decide) (by decide)))).other R17 (Or.inr (slot_ne (Or.inr (w50 hw)) (Or.inr (w56 hw)) (by decide) (t := .long) (t' := (.object "java/util/Map")) (by decide) (by decide)))).other R20 (Or.inr (slot_ne (Or.inr (w50 hw)) (Or.inr (w58 hw)) (by decide) (t := .long) (t' := .long) (by decide) (by decide))))
  have c24 := (((F11.other R14 (Or.inr (slot_ne (Or.inr (w52 hw)) (Or.inr (w54 hw)) (by decide) (t := (.object "java/time/Duration")) (t' := (.object "java/time/Duration")) (by decide) (by decide)))).other R17 (Or.inr (slot_ne (Or.inr (w52 hw)) (Or.inr (w56 hw)) (by decide) (t := (.object "java/time/Duration")) (t' := (.object "java/util/Map")) (by decide) (by decide)))).other R20 (Or.inr (slot_ne (Or.inr (w52 hw)) (Or.inr (w58 hw)) (by decide) (t := (.object "java/time/Duration")) (t' := .long) (by decide) (by decide))))
  have c25 := ((F14.other R17 (Or.inr (slot_ne (Or.inr (w54 hw)) (Or.inr (w56 hw)) (by decide) (t := (.object "java/time/Duration")) (t' := (.object "java/util/Map")) (by decide) (by decide)))).other R20 (Or.inr (slot_ne (Or.inr (w54 hw)) (Or.inr (w58 hw)) (by decide) (t := (.object "java/time/Duration")) (t' := .long) (by decide) (by decide))))
  have c26 := (F17.other R20 (Or.inr (slot_ne (Or.inr (w56 hw)) (Or.inr (w58 hw)) (by decide) (t := (.object "java/util/Map")) (t' := .long) (by decide) (by decide))))
  have c27 := (c18.wr R20)
  exact o_ret0 W20 hlk hret (hb hy d8_43) (by decide) (by decide) ⟨c21, c22, c23, c24, c25, c26, F20, rfl⟩
theorem rm4 (l : Launch) (Z : State) (a0 : Array Value) (hw : ∀ d ∈ tables_1, d.before a0 Z = true) (gM gZ a1 : Addr) (y1 y2 : Int64) (h0 : Heap) (O0 : Old Z Z.heap.size h0) (SgM : Sta Z Z.heap "com/example/sluicegate/sluicegate/job/MetricReport$Type" "METER" "Lcom/example/sluicegate/sluicegate/job/MetricReport$Type;" (.ref gM)) (SgZ : Sta Z Z.heap "java/time/Duration" "ZERO" "Ljava/time/Duration;" (.ref gZ)) :
    CtrN l Z (⟨"com/example/sluicegate/sluicegate/job/MetricReport", "meter", "(Ljava/lang/String;JLjava/util/Map;J)Lcom/example/sluicegate/sluicegate/job/MetricReport;"⟩ : MethodName) prog_16_method_3_code 6 (some (.object "com/example/sluicegate/sluicegate/job/MetricReport")) [] (⟨2, 1, 7, 34⟩ : Room) #[(.ref a1), (.long y1), .null, (.long y2)] h0 [] (fun v h => ∃ r1 : Addr, h0.size ≤ r1 ∧ Exa Z h r1 "com/example/sluicegate/sluicegate/job/MetricReport" ∧ Fld Z h r1 "com/example/sluicegate/sluicegate/job/MetricReport" "name" "Ljava/lang/String;" (.ref a1) ∧ Fld Z h r1 "com/example/sluicegate/sluicegate/job/MetricReport" "type" "Lcom/example/sluicegate/sluicegate/job/MetricReport$Type;" (.ref gM) ∧ Fld Z h r1 "com/example/sluicegate/sluicegate/job/MetricReport" "count" "J" (.long y1) ∧ Fld Z h r1 "com/example/sluicegate/sluicegate/job/MetricReport" "mean" "Ljava/time/Duration;" (.ref gZ) ∧ Fld Z h r1 "com/example/sluicegate/sluicegate/job/MetricReport" "max" "Ljava/time/Duration;" (.ref gZ) ∧ Fld Z h r1 "com/example/sluicegate/sluicegate/job/MetricReport" "tags" "Ljava/util/Map;" .null ∧ Fld Z h r1 "com/example/sluicegate/sluicegate/job/MetricReport" "timestamp" "J" (.long y2) ∧ v = some (.ref r1)) := by
  refine CtrN.intro (L0 := #[.val (.ref a1), .val (.long y1), .second, .val .null, .val (.long y2), .second]) (plainFor_of_name pn1) O0 (fun m => by first | rfl | (simp [entryFrame, mkF, argsToLocals, Value.category]; done)) ?_
  intro p e s m below meth c T0 hy hml hret hlk hnm W0
  refine o_new W0 (w34 hw) (w35 hw) (w32 hw) (fun _ _ => trivial) (pc' := 3) (hb hy d7_0) rfl (cells' := 1) (slots' := 7) rfl rfl (by decide) (by decide) ?_
  intro b1 T1 h1 W1 E1 ge1 gz1 gb1 A1 D1
  have Fb1_name : Fld Z h1 b1 "com/example/sluicegate/sluicegate/job/MetricReport" "name" "Ljava/lang/String;" .null := D1 (Or.inr (w46 hw)) (ty := (.object "java/lang/String")) (by decide)
  have Fb1_type : Fld Z h1 b1 "com/example/sluicegate/sluicegate/job/MetricReport" "type" "Lcom/example/sluicegate/sluicegate/job/MetricReport$Type;" .null := D1 (Or.inr (w48 hw)) (ty := (.object "com/example/sluicegate/sluicegate/job/MetricReport$Type")) (by decide)
  have Fb1_count : Fld Z h1 b1 "com/example/sluicegate/sluicegate/job/MetricReport" "count" "J" (.long (0 : Int64)) := D1 (Or.inr (w50 hw)) (ty := .long) (by decide)
  have Fb1_mean : Fld Z h1 b1 "com/example/sluicegate/sluicegate/job/MetricReport" "mean" "Ljava/time/Duration;" .null := D1 (Or.inr (w52 hw)) (ty := (.object "java/time/Duration")) (by decide)
  have Fb1_max : Fld Z h1 b1 "com/example/sluicegate/sluicegate/job/MetricReport" "max" "Ljava/time/Duration;" .null := D1 (Or.inr (w54 hw)) (ty := (.object "java/time/Duration")) (by decide)
  have Fb1_tags : Fld Z h1 b1 "com/example/sluicegate/sluicegate/job/MetricReport" "tags" "Ljava/util/Map;" .null := D1 (Or.inr (w56 hw)) (ty := (.object "java/util/Map")) (by decide)
  have Fb1_timestamp : Fld Z h1 b1 "com/example/sluicegate/sluicegate/job/MetricReport" "timestamp" "J" (.long (0 : Int64)) := D1 (Or.inr (w58 hw)) (ty := .long) (by decide)
  refine o_dup W1 (pc' := 4) (hb hy d7_3) rfl rfl ?_
  refine o_aloadN W1 (pc' := 5) (hb hy d7_4) rfl rfl rfl ?_
  refine o_getS W1 (w36 hw) Via.refl (SgM.ext W1.ox) (pc' := 8) (hb hy d7_5) rfl ?_
  intro T2 W2
  refine o_lloadN W2 (pc' := 9) (hb hy d7_8) rfl rfl ?_
  refine o_getS W2 (w39 hw) Via.refl (SgZ.ext W2.ox) (pc' := 12) (hb hy d7_9) rfl ?_
  intro T3 W3
  refine o_getS W3 (w39 hw) Via.refl (SgZ.ext W3.ox) (pc' := 15) (hb hy d7_12) rfl ?_
  intro T4 W4
  refine o_aloadN W4 (pc' := 16) (hb hy d7_15) rfl rfl rfl ?_
  refine o_lload W4 (pc' := 18) (hb hy d7_16) rfl rfl ?_
  refine o_special W4 (y := (⟨"com/example/sluicegate/sluicegate/job/MetricReport", "<init>", "(Ljava/lang/String;Lcom/example/sluicegate/sluicegate/job/MetricReport$Type;JLjava/time/Duration;Ljava/time/Duration;Ljava/util/Map;J)V"⟩ : MethodName)) rfl (w41 hw) (w42 hw) (w43 hw) (by decide) (a := b1) (argsL := [(.ref a1), (.ref gM), (.long y1), (.ref gZ), (.ref gZ), .null, (.long y2)]) (CtrN.back (Wd := 1) W4 (rm3 l Z a0 hw gM gZ b1 a1 y1 y2 h1 W4.old A1 Fb1_name gz1 Fb1_type Fb1_count Fb1_mean Fb1_max Fb1_tags Fb1_timestamp) (w43 hw) (w32 hw) (by decide) (by decide)) (by rw [hml]; rfl) (lenOf pd2 rfl) (S := [(.ref b1)]) rfl (by exact Nat.le_of_eq rfl) (pc' := 21) (hb hy d7_18) rfl (cells' := 1) (slots' := 7) rfl rfl (by decide) (by decide) (wy := [b1]) (fun _ _ _ q => ⟨q.1, q.2.1⟩) (allS ⟨gz1, (Or.inr gb1)⟩ all0) (fun _ _ => trivial) ?_
  intro v5 T5 h5 lo5 W5 K5 q5
  obtain ⟨P5_0, P5_1, P5_2, P5_3, P5_4, P5_5, P5_6, rfl⟩ := q5.2.2
  show Gl _ _ _ _ _ _ _ _ [(.ref b1)]
  have c6 := (A1.keep K5)
  exact o_retA W5 hlk (v := (.ref b1)) hret rfl rfl (hb hy d7_21) (by decide) (by decide) ⟨b1, gb1, c6, P5_0, P5_1, P5_2, P5_3, P5_4, P5_5, P5_6, rfl⟩
theorem rm5 (l : Launch) (Z : State) (a0 : Array Value) (hw : ∀ d ∈ tables_1, d.before a0 Z = true) (gC gZ a1 a2 : Addr) (h0 : Heap) (O0 : Old Z Z.heap.size h0) (E_a1 : Exa Z h0 a1 "com/example/sluicegate/sluicegate/job/MetricReport") (F_a1_name : Fld Z h0 a1 "com/example/sluicegate/sluicegate/job/MetricReport" "name" "Ljava/lang/String;" .null) (g_a1 : Z.heap.size ≤ a1) (F_a1_type : Fld Z h0 a1 "com/example/sluicegate/sluicegate/job/MetricReport" "type" "Lcom/example/sluicegate/sluicegate/job/MetricReport$Type;" .null) (F_a1_count : Fld Z h0 a1 "com/example/sluicegate/sluicegate/job/MetricReport" "count" "J" (.long (0 : Int64))) (F_a1_mean : Fld Z h0 a1 "com/example/sluicegate/sluicegate/job/MetricReport" "mean" "Ljava/time/Duration;" .null) (F_a1_max : Fld Z h0 a1 "com/example/sluicegate/sluicegate/job/MetricReport" "max" "Ljava/time/Duration;" .null) (F_a1_tags : Fld Z h0 a1 "com/example/sluicegate/sluicegate/job/MetricReport" "tags" "Ljava/util/Map;" .null) (F_a1_timestamp : Fld Z h0 a1 "com/example/sluicegate/sluicegate/job/MetricReport" "timestamp" "J" (.long (0 : Int64))) :
    CtrN l Z (⟨"com/example/sluicegate/sluicegate/job/MetricReport", "<init>", "(Ljava/lang/String;Lcom/example/sluicegate/sluicegate/job/MetricReport$Type;JLjava/time/Duration;Ljava/time/Duration;Ljava/util/Map;J)V"⟩ : MethodName) prog_16_method_1_code 10 none [] (⟨1, 0, 0, 12⟩ : Room) #[(.ref a1), (.ref a2), (.ref gC), (.long (0 : Int64)), (.ref gZ), (.ref gZ), .null, (.long (0 : Int64))] h0 [a1] (fun v h => Fld Z h a1 "com/example/sluicegate/sluicegate/job/MetricReport" "name" "Ljava/lang/String;" (.ref a2) ∧ Fld Z h a1 "com/example/sluicegate/sluicegate/job/MetricReport" "type" "Lcom/example/sluicegate/sluicegate/job/MetricReport$Type;" (.ref gC) ∧ Fld Z h a1 "com/example/sluicegate/sluicegate/job/MetricReport" "count" "J" (.long (0 : Int64)) ∧ Fld Z h a1 "com/example/sluicegate/sluicegate/job/MetricReport" "mean" "Ljava/time/Duration;" (.ref gZ) ∧ Fld Z h a1 "com/example/sluicegate/sluicegate/job/MetricReport" "max" "Ljava/time/Duration;" (.ref gZ) ∧ Fld Z h a1 "com/example/sluicegate/sluicegate/job/MetricReport" "tags" "Ljava/util/Map;" .null ∧ Fld Z h a1 "com/example/sluicegate/sluicegate/job/MetricReport" "timestamp" "J" (.long (0 : Int64)) ∧ v = none) := by
  refine CtrN.intro (L0 := #[.val (.ref a1), .val (.ref a2), .val (.ref gC), .val (.long (0 : Int64)), .second, .val (.ref gZ), .val (.ref gZ), .val .null, .val (.long (0 : Int64)), .second]) (plainFor_of_name pn1) O0 (fun m => by first | rfl | (simp [entryFrame, mkF, argsToLocals, Value.category]; done)) ?_
  intro p e s m below meth c T0 hy hml hret hlk hnm W0
  refine o_aloadN W0 (pc' := 1) (hb hy d8_0) rfl rfl rfl ?_
  refine o_initO W0 (w44 hw) (w12 hw) (w13 hw) (by rw [hml]; rfl) (pc' := 4) (hb hy d8_1) rfl (by decide) 0 (by exact Nat.le_of_eq rfl) (by decide) ?_
  intro T1 W1
  refine o_aloadN W1 (pc' := 5) (hb hy d8_4) rfl rfl rfl ?_
  refine o_aloadN W1 (pc' := 6) (hb hy d8_5) rfl rfl rfl ?_
  refine o_putF W1 (w45 hw) Via.refl F_a1_name E_a1 (Or.inr ⟨(w46 hw), rfl, hnm⟩) (w35 hw) (ty := (.object "java/lang/String")) (v' := (.ref a2)) (by decide) rfl rfl g_a1 (Or.inl (List.mem_of_getElem? (i := 0) rfl)) (fun _ _ => trivial) (pc' := 9) (hb hy d8_6) rfl ?_
  intro T2 h2 lo2 W2 R2
  have F2 := F_a1_name.same R2
  refine o_aloadN W2 (pc' := 10) (hb hy d8_9) rfl rfl rfl ?_
  refine o_aloadN W2 (pc' := 11) (hb hy d8_10) rfl rfl rfl ?_
  have c3 := (E_a1.wr R2)
  have c4 := (F_a1_type.other R2 (Or.inr (slot_ne (Or.inr (w48 hw)) (Or.inr (w46 hw)) (by decide) (t := (.object "com/example/sluicegate/sluicegate/job/MetricReport$Type")) (t' := (.object "java/lang/String")) (by decide) (by decide))))
  refine o_putF W2 (w47 hw) Via.refl c4 c3 (Or.inr ⟨(w48 hw), rfl, hnm⟩) (w35 hw) (ty := (.object "com/example/sluicegate/sluicegate/job/MetricReport$Type")) (v' := (.ref gC)) (by decide) rfl rfl g_a1 (Or.inl (List.mem_of_getElem? (i := 0) rfl)) (fun _ _ => trivial) (pc' := 14) (hb hy d8_11) rfl ?_
  intro T5 h5 lo5 W5 R5
  have F5 := c4.same R5
  refine o_aloadN W5 (pc' := 15) (hb hy d8_14) rfl rfl rfl ?_
  refine o_lloadN W5 (pc' := 16) (hb hy d8_15) rfl rfl ?_
  have c6 := (c3.wr R5)
  have c7 := ((F_a1_count.other R2 (Or.inr (slot_ne (Or.inr (w50 hw)) (Or.inr (w46 hw)) (by decide) (t := .long) (t' := (.object "java/lang/String")) (by decide) (by decide)))).other R5 (Or.inr (slot_ne (Or.inr (w50 hw)) (Or.inr (w48 hw)) (by decide) (t := .long) (t' := (.object "com/example/sluicegate/sluicegate/job/MetricReport$Type")) (by decide) (by decide))))
  refine o_putF W5 (w49 hw) Via.refl c7 c6 (Or.inr ⟨(w50 hw), rfl, hnm⟩) (w35 hw) (ty := .long) (v' := (.long (0 : Int64))) (by decide) rfl rfl g_a1 (Or.inl (List.mem_of_getElem? (i := 0) rfl)) (fun _ _ => trivial) (pc' := 19) (hb hy d8_16) rfl ?_
  intro T8 h8 lo8 W8 R8
  have F8 := c7.same R8
  refine o_aloadN W8 (pc' := 20) (hb hy d8_19) rfl rfl rfl ?_
  refine o_aload W8 (pc' := 22) (hb hy d8_20) rfl rfl rfl ?_
  have c9 := (c6.wr R8)
  have c10 := (((F_a1_mean.other R2 (Or.inr (slot_ne (Or.inr (w52 hw)) (Or.inr (w46 hw)) (by decide) (t := (.object "java/time/Duration")) (t' := (.object "java/lang/String")) (by decide) (by decide)))).other R5 (Or.inr (slot_ne (Or.inr (w52 hw)) (Or.inr (w48 hw)) (by decide) (t := (.object "java/time/Duration")) (t' := (.object "com/example/sluicegate/sluicegate/job/MetricReport$Type")) (by decide) (by decide)))).other R8 (Or.inr (slot_ne (Or.inr (w52 hw)) (Or.inr (w50 hw)) (by decide) (t := (.object "java/time/Duration")) (t' := .long) (by decide) (by decide))))
  refine o_putF W8 (w51 hw) Via.refl c10 c9 (Or.inr ⟨(w52 hw), rfl, hnm⟩) (w35 hw) (ty := (.object "java/time/Duration")) (v' := (.ref gZ)) (by decide) rfl rfl g_a1 (Or.inl (List.mem_of_getElem? (i := 0) rfl)) (fun _ _ => trivial) (pc' := 25) (hb hy d8_22) rfl ?_
  intro T11 h11 lo11 W11 R11
  have F11 := c10.same R11
  refine o_aloadN W11 (pc' := 26) (hb hy d8_25) rfl rfl rfl ?_
  refine o_aload W11 (pc' := 28) (hb hy d8_26) rfl rfl rfl ?_
  have c12 := (c9.wr R11)
  have c13 := ((((F_a1_max.other R2 (Or.inr (slot_ne (Or.inr (w54 hw)) (Or.inr (w46 hw)) (by decide) (t := (.object "java/time/Duration")) (t' := (.object "java/lang/String")) (by decide) (by decide)))).other R5 (Or.inr (slot_ne (Or.inr (w54 hw)) (Or.inr (w48 hw)) (by decide) (t := (.object "java/time/Duration")) (t' := (.object "com/example/sluicegate/sluicegate/job/MetricReport$Type")) (by decide) (by decide)))).other R8 (Or.inr (slot_ne (Or.inr (w54 hw)) (Or.inr (w50 hw)) (by decide) (t := (.object "java/time/Duration")) (t' := .long) (by decide) (by decide)))).other R11 (Or.inr (slot_ne (Or.inr (w54 hw)) (Or.inr (w52 hw)) (by decide) (t := (.object "java/time/Duration")) (t' := (.object "java/time/Duration")) (by decide) (by decide))))
  refine o_putF W11 (w53 hw) Via.refl c13 c12 (Or.inr ⟨(w54 hw), rfl, hnm⟩) (w35 hw) (ty := (.object "java/time/Duration")) (v' := (.ref gZ)) (by decide) rfl rfl g_a1 (Or.inl (List.mem_of_getElem? (i := 0) rfl)) (fun _ _ => trivial) (pc' := 31) (hb hy d8_28) rfl ?_
  intro T14 h14 lo14 W14 R14
  have F14 := c13.same R14
  refine o_aloadN W14 (pc' := 32) (hb hy d8_31) rfl rfl rfl ?_
  refine o_aload W14 (pc' := 34) (hb hy d8_32) rfl rfl rfl ?_
  have c15 := (c12.wr R14)
  have c16 := (((((F_a1_tags.other R2 (Or.inr (slot_ne (Or.inr (w56 hw)) (Or.inr (w46 hw)) (by decide) (t := (.object "java/util/Map")) (t' := (.object "java/lang/String")) (by decide) (by decide)))).other R5 (Or.inr (slot_ne (Or.inr (w56 hw)) (Or.inr (w48 hw)) (by decide) (t := (.object "java/util/Map")) (t' := (.object "com/example/sluicegate/sluicegate/job/MetricReport$Type")) (by decide) (by decide)))).other R8 (Or.inr (slot_ne (Or.inr (w56 hw)) (Or.inr (w50 hw)) (by decide) (t := (.object "java/util/Map")) (t' := .long) (by decide) (by decide)))).other R11 (Or.inr (slot_ne (Or.inr (w56 hw)) (Or.inr (w52 hw)) (by decide) (t := (.object "java/util/Map")) (t' := (.object "java/time/Duration")) (by decide) (by decide)))).other R14 (Or.inr (slot_ne (Or.inr (w56 hw)) (Or.inr (w54 hw)) (by decide) (t := (.object "java/util/Map")) (t' := (.object "java/time/Duration")) (by decide) (by decide))))
  refine o_putF W14 (w55 hw) Via.refl c16 c15 (Or.inr ⟨(w56 hw), rfl, hnm⟩) (w35 hw) (ty := (.object "java/util/Map")) (v' := .null) (by decide) rfl rfl g_a1 (Or.inl (List.mem_of_getElem? (i := 0) rfl)) (fun _ _ => trivial) (pc' := 37) (hb hy d8_34) rfl ?_
  intro T17 h17 lo17 W17 R17
  have F17 := c16.same R17
  refine o_aloadN W17 (pc' := 38) (hb hy d8_37) rfl rfl rfl ?_
  refine o_lload W17 (pc' := 40) (hb hy d8_38) rfl rfl ?_
  have c18 := (c15.wr R17)
  have c19 := ((((((F_a1_timestamp.other R2 (Or.inr (slot_ne (Or.inr (w58 hw)) (Or.inr (w46 hw)) (by decide) (t := .long) (t' := (.object "java/lang/String")) (by decide) (by decide)))).other R5 (Or.inr (slot_ne (Or.inr (w58 hw)) (Or.inr (w48 hw)) (by decide) (t := .long) (t' := (.object "com/example/sluicegate/sluicegate/job/MetricReport$Type")) (by decide) (by decide)))).other R8 (Or.inr (slot_ne (Or.inr (w58 hw)) (Or.inr (w50 hw)) (by decide) (t := .long) (t' := .long) (by decide) (by decide)))).other R11 (Or.inr (slot_ne (Or.inr (w58 hw)) (Or.inr (w52 hw)) (by decide) (t := .long) (t' := (.object "java/time/Duration")) (by decide) (by decide)))).other R14 (Or.inr (slot_ne (Or.inr (w58 hw)) (Or.inr (w54 hw)) (by decide) (t := .long) (t' := (.object "java/time/Duration")) (by decide) (by decide)))).other R17 (Or.inr (slot_ne (Or.inr (w58 hw)) (Or.inr (w56 hw)) (by decide) (t := .long) (t' := (.object "java/util/Map")) (by decide) (by decide))))
  refine o_putF W17 (w57 hw) Via.refl c19 c18 (Or.inr ⟨(w58 hw), rfl, hnm⟩) (w35 hw) (ty := .long) (v' := (.long (0 : Int64))) (by decide) rfl rfl g_a1 (Or.inl (List.mem_of_getElem? (i := 0) rfl)) (fun _ _ => trivial) (pc' := 43) (hb hy d8_40) rfl ?_
  intro T20 h20 lo20 W20 R20
  have F20 := c19.same R20
  have c21 := ((((((F2.other R5 (Or.inr (slot_ne (Or.inr (w46 hw)) (Or.inr (w48 hw)) (by decide) (t := (.object "java/lang/String")) (t' := (.object "com/example/sluicegate/sluicegate/job/MetricReport$Type")) (by decide) (by decide)))).other R8 (Or.inr (slot_ne (Or.inr (w46 hw)) (Or.inr (w50 hw)) (by decide) (t := (.object "java/lang/String")) (t' := .long) (by decide) (by decide)))).other R11 (Or.inr (slot_ne (Or.inr (w46 hw)) (Or.inr (w52 hw)) (by decide) (t := (.object "java/lang/String")) (t' := (.object "java/time/Duration")) (by decide) (by decide)))).other R14 (Or.inr (slot_ne (Or.inr (w46 hw)) (Or.inr (w54 hw)) (by decide) (t := (.object "java/lang/String")) (t' := (.object "java/time/Duration")) (by decide) (by decide)))).other R17 (Or.inr (slot_ne (Or.inr (w46 hw)) (Or.inr (w56 hw)) (by decide) (t := (.object "java/lang/String")) (t' := (.object "java/util/Map")) (by decide) (by decide)))).other R20 (Or.inr (slot_ne (Or.inr (w46 hw)) (Or.inr (w58 hw)) (by decide) (t := (.object "java/lang/String")) (t' := .long) (by decide) (by decide))))
  have c22 := (((((F5.other R8 (Or.inr (slot_ne (Or.inr (w48 hw)) (Or.inr (w50 hw)) (by decide) (t := (.object "com/example/sluicegate/sluicegate/job/MetricReport$Type")) (t' := .long) (by decide) (by decide)))).other R11 (Or.inr (slot_ne (Or.inr (w48 hw)) (Or.inr (w52 hw)) (by decide) (t := (.object "com/example/sluicegate/sluicegate/job/MetricReport$Type")) (t' := (.object "java/time/Duration")) (by decide) (by decide)))).other R14 (Or.inr (slot_ne (Or.inr (w48 hw)) (Or.inr (w54 hw)) (by decide) (t := (.object "com/example/sluicegate/sluicegate/job/MetricReport$Type")) (t' := (.object "java/time/Duration")) (by decide) (by decide)))).other R17 (Or.inr (slot_ne (Or.inr (w48 hw)) (Or.inr (w56 hw)) (by decide) (t := (.object "com/example/sluicegate/sluicegate/job/MetricReport$Type")) (t' := (.object "java/util/Map")) (by decide) (by decide)))).other R20 (Or.inr (slot_ne (Or.inr (w48 hw)) (Or.inr (w58 hw)) (by decide) (t := (.object "com/example/sluicegate/sluicegate/job/MetricReport$Type")) (t' := .long) (by decide) (by decide))))
  have c23 := ((((F8.other R11 (Or.inr (slot_ne (Or.inr (w50 hw)) (Or.inr (w52 hw)) (by decide) (t := .long) (t' := (.object "java/time/Duration")) (by decide) (by decide)))).other R14 (Or.inr (slot_ne (Or.inr (w50 hw)) (Or.inr (w54 hw)) (by decide) (t := .long) (t' := (.object "java/time/Duration")) (by decide) (by decide)))).other R17 (Or.inr (slot_ne (Or.inr (w50 hw)) (Or.inr (w56 hw)) (by decide) (t := .long) (t' := (.object "java/util/Map")) (by decide) (by decide)))).other R20 (Or.inr (slot_ne (Or.inr (w50 hw)) (Or.inr (w58 hw)) (by decide) (t := .long) (t' := .long) (by decide) (by decide))))
  have c24 := (((F11.other R14 (Or.inr (slot_ne (Or.inr (w52 hw)) (Or.inr (w54 hw)) (by decide) (t := (.object "java/time/Duration")) (t' := (.object "java/time/Duration")) (by decide) (by decide)))).other R17 (Or.inr (slot_ne (Or.inr (w52 hw)) (Or.inr (w56 hw)) (by decide) (t := (.object "java/time/Duration")) (t' := (.object "java/util/Map")) (by decide) (by decide)))).other R20 (Or.inr (slot_ne (Or.inr (w52 hw)) (Or.inr (w58 hw)) (by decide) (t := (.object "java/time/Duration")) (t' := .long) (by decide) (by decide))))
  have c25 := ((F14.other R17 (Or.inr (slot_ne (Or.inr (w54 hw)) (Or.inr (w56 hw)) (by decide) (t := (.object "java/time/Duration")) (t' := (.object "java/util/Map")) (by decide) (by decide)))).other R20 (Or.inr (slot_ne (Or.inr (w54 hw)) (Or.inr (w58 hw)) (by decide) (t := (.object "java/time/Duration")) (t' := .long) (by decide) (by decide))))
  have c26 := (F17.other R20 (Or.inr (slot_ne (Or.inr (w56 hw)) (Or.inr (w58 hw)) (by decide) (t := (.object "java/util/Map")) (t' := .long) (by decide) (by decide))))
  have c27 := (c18.wr R20)
  exact o_ret0 W20 hlk hret (hb hy d8_43) (by decide) (by decide) ⟨c21, c22, c23, c24, c25, c26, F20, rfl⟩
theorem rm6 (l : Launch) (Z : State) (a0 : Array Value) (hw : ∀ d ∈ tables_1, d.before a0 Z = true) (gC gZ a1 : Addr) (h0 : Heap) (O0 : Old Z Z.heap.size h0) (SgC : Sta Z Z.heap "com/example/sluicegate/sluicegate/job/MetricReport$Type" "COUNTER" "Lcom/example/sluicegate/sluicegate/job/MetricReport$Type;" (.ref gC)) (SgZ : Sta Z Z.heap "java/time/Duration" "ZERO" "Ljava/time/Duration;" (.ref gZ)) :
    CtrN l Z (⟨"com/example/sluicegate/sluicegate/job/MetricReport", "counter", "(Ljava/lang/String;JLjava/util/Map;J)Lcom/example/sluicegate/sluicegate/job/MetricReport;"⟩ : MethodName) prog_16_method_2_code 6 (some (.object "com/example/sluicegate/sluicegate/job/MetricReport")) [] (⟨2, 1, 7, 34⟩ : Room) #[(.ref a1), (.long (0 : Int64)), .null, (.long (0 : Int64))] h0 [] (fun v h => ∃ r1 : Addr, h0.size ≤ r1 ∧ Exa Z h r1 "com/example/sluicegate/sluicegate/job/MetricReport" ∧ Fld Z h r1 "com/example/sluicegate/sluicegate/job/MetricReport" "name" "Ljava/lang/String;" (.ref a1) ∧ Fld Z h r1 "com/example/sluicegate/sluicegate/job/MetricReport" "type" "Lcom/example/sluicegate/sluicegate/job/MetricReport$Type;" (.ref gC) ∧ Fld Z h r1 "com/example/sluicegate/sluicegate/job/MetricReport" "count" "J" (.long (0 : Int64)) ∧ Fld Z h r1 "com/example/sluicegate/sluicegate/job/MetricReport" "mean" "Ljava/time/Duration;" (.ref gZ) ∧ Fld Z h r1 "com/example/sluicegate/sluicegate/job/MetricReport" "max" "Ljava/time/Duration;" (.ref gZ) ∧ Fld Z h r1 "com/example/sluicegate/sluicegate/job/MetricReport" "tags" "Ljava/util/Map;" .null ∧ Fld Z h r1 "com/example/sluicegate/sluicegate/job/MetricReport" "timestamp" "J" (.long (0 : Int64)) ∧ v = some (.ref r1)) := by
  refine CtrN.intro (L0 := #[.val (.ref a1), .val (.long (0 : Int64)), .second, .val .null, .val (.long (0 : Int64)), .second]) (plainFor_of_name pn1) O0 (fun m => by first | rfl | (simp [entryFrame, mkF, argsToLocals, Value.category]; done)) ?_
  intro p e s m below meth c T0 hy hml hret hlk hnm W0
  refine o_new W0 (w34 hw) (w35 hw) (w32 hw) (fun _ _ => trivial) (pc' := 3) (hb hy d9_0) rfl (cells' := 1) (slots' := 7) rfl rfl (by decide) (by decide) ?_
  intro b1 T1 h1 W1 E1 ge1 gz1 gb1 A1 D1
  have Fb1_name : Fld Z h1 b1 "com/example/sluicegate/sluicegate/job/MetricReport" "name" "Ljava/lang/String;" .null := D1 (Or.inr (w46 hw)) (ty := (.object "java/lang/String")) (by decide)
  have Fb1_type : Fld Z h1 b1 "com/example/sluicegate/sluicegate/job/MetricReport" "type" "Lcom/example/sluicegate/sluicegate/job/MetricReport$Type;" .null := D1 (Or.inr (w48 hw)) (ty := (.object "com/example/sluicegate/sluicegate/job/MetricReport$Type")) (by decide)
  have Fb1_count : Fld Z h1 b1 "com/example/sluicegate/sluicegate/job/MetricReport" "count" "J" (.long (0 : Int64)) := D1 (Or.inr (w50 hw)) (ty := .long) (by decide)
  have Fb1_mean : Fld Z h1 b1 "com/example/sluicegate/sluicegate/job/MetricReport" "mean" "Ljava/time/Duration;" .null := D1 (Or.inr (w52 hw)) (ty := (.object "java/time/Duration")) (by decide)
  have Fb1_max : Fld Z h1 b1 "com/example/sluicegate/sluicegate/job/MetricReport" "max" "Ljava/time/Duration;" .null := D1 (Or.inr (w54 hw)) (ty := (.object "java/time/Duration")) (by decide)
  have Fb1_tags : Fld Z h1 b1 "com/example/sluicegate/sluicegate/job/MetricReport" "tags" "Ljava/util/Map;" .null := D1 (Or.inr (w56 hw)) (ty := (.object "java/util/Map")) (by decide)
  have Fb1_timestamp : Fld Z h1 b1 "com/example/sluicegate/sluicegate/job/MetricReport" "timestamp" "J" (.long (0 : Int64)) := D1 (Or.inr (w58 hw)) (ty := .long) (by decide)
  refine o_dup W1 (pc' := 4) (hb hy d9_3) rfl rfl ?_
  refine o_aloadN W1 (pc' := 5) (hb hy d9_4) rfl rfl rfl ?_
  refine o_getS W1 (w62 hw) Via.refl (SgC.ext W1.ox) (pc' := 8) (hb hy d9_5) rfl ?_
  intro T2 W2
  refine o_lloadN W2 (pc' := 9) (hb hy d9_8) rfl rfl ?_
  refine o_getS W2 (w39 hw) Via.refl (SgZ.ext W2.ox) (pc' := 12) (hb hy d9_9) rfl ?_
  intro T3 W3
  refine o_getS W3 (w39 hw) Via.refl (SgZ.ext W3.ox) (pc' := 15) (hb hy d9_12) rfl ?_
  intro T4 W4
  refine o_aloadN W4 (pc' := 16) (hb hy d9_15) rfl rfl rfl ?_
  refine o_lload W4 (pc' := 18) (hb hy d9_16) rfl rfl ?_
  refine o_special W4 (y := (⟨"com/example/sluicegate/sluicegate/job/MetricReport", "<init>", "(Ljava/lang/String;Lcom/example/sluicegate/sluicegate/job/MetricReport$Type;JLjava/time/Duration;Ljava/time/Duration;Ljava/util/Map;J)V"⟩ : MethodName)) rfl (w41 hw) (w42 hw) (w43 hw) (by decide) (a := b1) (argsL := [(.ref a1), (.ref gC), (.long (0 : Int64)), (.ref gZ), (.ref gZ), .null, (.long (0 : Int64))]) (CtrN.back (Wd := 1) W4 (rm5 l Z a0 hw gC gZ b1 a1 h1 W4.old A1 Fb1_name gz1 Fb1_type Fb1_count Fb1_mean Fb1_max Fb1_tags Fb1_timestamp) (w43 hw) (w32 hw) (by decide) (by decide)) (by rw [hml]; rfl) (lenOf pd2 rfl) (S := [(.ref b1)]) rfl (by exact Nat.le_of_eq rfl) (pc' := 21) (hb hy d9_18) rfl (cells' := 1) (slots' := 7) rfl rfl (by decide) (by decide) (wy := [b1]) (fun _ _ _ q => ⟨q.1, q.2.1⟩) (allS ⟨gz1, (Or.inr gb1)⟩ all0) (fun _ _ => trivial) ?_
  intro v5 T5 h5 lo5 W5 K5 q5
  obtain ⟨P5_0, P5_1, P5_2, P5_3, P5_4, P5_5, P5_6, rfl⟩ := q5.2.2
  show Gl _ _ _ _ _ _ _ _ [(.ref b1)]
  have c6 := (A1.keep K5)
  exact o_retA W5 hlk (v := (.ref b1)) hret rfl rfl (hb hy d9_21) (by decide) (by decide) ⟨b1, gb1, c6, P5_0, P5_1, P5_2, P5_3, P5_4, P5_5, P5_6, rfl⟩
theorem rm7 (l : Launch) (Z : State) (a0 : Array Value) (hw : ∀ d ∈ tables_1, d.before a0 Z = true) (a1 a2 : Addr) (h0 : Heap) (O0 : Old Z Z.heap.size h0) (F_a1_name : Fld Z h0 a1 "com/example/sluicegate/sluicegate/job/MetricReport" "name" "Ljava/lang/String;" (.ref a2)) :
    CtrN l Z (⟨"com/example/sluicegate/sluicegate/job/MetricReport", "name", "()Ljava/lang/String;"⟩ : MethodName) prog_16_method_5_code 1 (some (.object "java/lang/String")) [] (⟨0, 0, 0, 0⟩ : Room) #[(.ref a1)] h0 [] (fun v h => v = some (.ref a2)) := by
  refine CtrN.intro (L0 := #[.val (.ref a1)]) (plainFor_of_name pn1) O0 (fun m => by first | rfl | (simp [entryFrame, mkF, argsToLocals, Value.category]; done)) ?_
  intro p e s m below meth c T0 hy hml hret hlk hnm W0
  refine o_aloadN W0 (pc' := 1) (hb hy d10_0) rfl rfl rfl ?_
  refine o_getF W0 (w45 hw) Via.refl F_a1_name (pc' := 4) (hb hy d10_1) rfl ?_
  intro T1 W1
  exact o_retA W1 hlk (v := (.ref a2)) hret rfl rfl (hb hy d10_4) (by decide) (by decide) rfl
theorem rm8 (l : Launch) (Z : State) (a0 : Array Value) (hw : ∀ d ∈ tables_1, d.before a0 Z = true) (a1 : Addr) (h0 : Heap) (O0 : Old Z Z.heap.size h0) :
    CtrN l Z (⟨"java/lang/String", "equals", "(Ljava/lang/Object;)Z"⟩ : MethodName) jdk_42_method_66_code 3 (some .boolean) [] (⟨0, 0, 0, 0⟩ : Room) #[(.ref a1), (.ref a1)] h0 [] (fun v h => v = some (.int 1)) := by
  refine CtrN.intro (L0 := #[.val (.ref a1), .val (.ref a1), .unset]) (plainFor_of_name pn0) O0 (fun m => by first | rfl | (simp [entryFrame, mkF, argsToLocals, Value.category]; done)) ?_
  intro p e s m below meth c T0 hy hml hret hlk hnm W0
  refine o_aloadN W0 (pc' := 1) (hb hy d11_0) rfl rfl rfl ?_
  refine o_aloadN W0 (pc' := 2) (hb hy d11_1) rfl rfl rfl ?_
  refine o_acmpN W0 (pc' := 5) (hb hy d11_2) rfl rfl (XT.aa_ne_f rfl) rfl ?_
  refine o_iconst W0 (v := 1) (pc' := 6) (hb hy d11_5) rfl rfl ?_
  exact o_retN W0 hlk (t := .boolean) hret (by simp) (z' := (1 : Int32)) (by decide) (hb hy d11_6) (by decide) (by decide) rfl
theorem rm9 (l : Launch) (Z : State) (a0 : Array Value) (hw : ∀ d ∈ tables_1, d.before a0 Z = true) (gM a1 : Addr) (h0 : Heap) (O0 : Old Z Z.heap.size h0) (F_a1_type : Fld Z h0 a1 "com/example/sluicegate/sluicegate/job/MetricReport" "type" "Lcom/example/sluicegate/sluicegate/job/MetricReport$Type;" (.ref gM)) :
    CtrN l Z (⟨"com/example/sluicegate/sluicegate/job/MetricReport", "type", "()Lcom/example/sluicegate/sluicegate/job/MetricReport$Type;"⟩ : MethodName) prog_16_method_6_code 1 (some (.object "com/example/sluicegate/sluicegate/job/MetricReport$Type")) [] (⟨0, 0, 0, 0⟩ : Room) #[(.ref a1)] h0 [] (fun v h => v = some (.ref gM)) := by
  refine CtrN.intro (L0 := #[.val (.ref a1)]) (plainFor_of_name pn1) O0 (fun m => by first | rfl | (simp [entryFrame, mkF, argsToLocals, Value.category]; done)) ?_
  intro p e s m below meth c T0 hy hml hret hlk hnm W0
  refine o_aloadN W0 (pc' := 1) (hb hy d12_0) rfl rfl rfl ?_
  refine o_getF W0 (w47 hw) Via.refl F_a1_type (pc' := 4) (hb hy d12_1) rfl ?_
  intro T1 W1
  exact o_retA W1 hlk (v := (.ref gM)) hret rfl rfl (hb hy d12_4) (by decide) (by decide) rfl
theorem rm10 (l : Launch) (Z : State) (a0 : Array Value) (hw : ∀ d ∈ tables_1, d.before a0 Z = true) (a1 : Addr) (y1 : Int64) (h0 : Heap) (O0 : Old Z Z.heap.size h0) (F_a1_count : Fld Z h0 a1 "com/example/sluicegate/sluicegate/job/MetricReport" "count" "J" (.long y1)) :
    CtrN l Z (⟨"com/example/sluicegate/sluicegate/job/MetricReport", "count", "()J"⟩ : MethodName) prog_16_method_7_code 1 (some .long) [] (⟨0, 0, 0, 0⟩ : Room) #[(.ref a1)] h0 [] (fun v h => v = some (.long y1)) := by
  refine CtrN.intro (L0 := #[.val (.ref a1)]) (plainFor_of_name pn1) O0 (fun m => by first | rfl | (simp [entryFrame, mkF, argsToLocals, Value.category]; done)) ?_
  intro p e s m below meth c T0 hy hml hret hlk hnm W0
  refine o_aloadN W0 (pc' := 1) (hb hy d13_0) rfl rfl rfl ?_
  refine o_getF W0 (w49 hw) Via.refl F_a1_count (pc' := 4) (hb hy d13_1) rfl ?_
  intro T1 W1
  exact o_retJ W1 hlk hret (hb hy d13_4) (by decide) (by decide) rfl
theorem rm11 (l : Launch) (Z : State) (a0 : Array Value) (hw : ∀ d ∈ tables_1, d.before a0 Z = true) (a1 : Addr) (y1 : Int64) (h0 : Heap) (O0 : Old Z Z.heap.size h0) (F_a1_timestamp : Fld Z h0 a1 "com/example/sluicegate/sluicegate/job/MetricReport" "timestamp" "J" (.long y1)) :
    CtrN l Z (⟨"com/example/sluicegate/sluicegate/job/MetricReport", "timestamp", "()J"⟩ : MethodName) prog_16_method_11_code 1 (some .long) [] (⟨0, 0, 0, 0⟩ : Room) #[(.ref a1)] h0 [] (fun v h => v = some (.long y1)) := by
  refine CtrN.intro (L0 := #[.val (.ref a1)]) (plainFor_of_name pn1) O0 (fun m => by first | rfl | (simp [entryFrame, mkF, argsToLocals, Value.category]; done)) ?_
  intro p e s m below meth c T0 hy hml hret hlk hnm W0
  refine o_aloadN W0 (pc' := 1) (hb hy d14_0) rfl rfl rfl ?_
  refine o_getF W0 (w57 hw) Via.refl F_a1_timestamp (pc' := 4) (hb hy d14_1) rfl ?_
  intro T1 W1
  exact o_retJ W1 hlk hret (hb hy d14_4) (by decide) (by decide) rfl
theorem rm12 (l : Launch) (Z : State) (a0 : Array Value) (hw : ∀ d ∈ tables_1, d.before a0 Z = true) (a1 : Addr) (h0 : Heap) (O0 : Old Z Z.heap.size h0) (F_a1_tags : Fld Z h0 a1 "com/example/sluicegate/sluicegate/job/MetricReport" "tags" "Ljava/util/Map;" .null) :
    CtrN l Z (⟨"com/example/sluicegate/sluicegate/job/MetricReport", "tags", "()Ljava/util/Map;"⟩ : MethodName) prog_16_method_10_code 1 (some (.object "java/util/Map")) [] (⟨0, 0, 0, 0⟩ : Room) #[(.ref a1)] h0 [] (fun v h => v = some .null) := by
  refine CtrN.intro (L0 := #[.val (.ref a1)]) (plainFor_of_name pn1) O0 (fun m => by first | rfl | (simp [entryFrame, mkF, argsToLocals, Value.category]; done)) ?_
  intro p e s m below meth c T0 hy hml hret hlk hnm W0
  refine o_aloadN W0 (pc' := 1) (hb hy d15_0) rfl rfl rfl ?_
  refine o_getF W0 (w55 hw) Via.refl F_a1_tags (pc' := 4) (hb hy d15_1) rfl ?_
  intro T1 W1
  exact o_retA W1 hlk (v := .null) hret rfl rfl (hb hy d15_4) (by decide) (by decide) rfl
theorem rm13 (l : Launch) (Z : State) (a0 : Array Value) (hw : ∀ d ∈ tables_1, d.before a0 Z = true) (gZ a1 : Addr) (h0 : Heap) (O0 : Old Z Z.heap.size h0) (F_a1_mean : Fld Z h0 a1 "com/example/sluicegate/sluicegate/job/MetricReport" "mean" "Ljava/time/Duration;" (.ref gZ)) :
    CtrN l Z (⟨"com/example/sluicegate/sluicegate/job/MetricReport", "mean", "()Ljava/time/Duration;"⟩ : MethodName) prog_16_method_8_code 1 (some (.object "java/time/Duration")) [] (⟨0, 0, 0, 0⟩ : Room) #[(.ref a1)] h0 [] (fun v h => v = some (.ref gZ)) := by
  refine CtrN.intro (L0 := #[.val (.ref a1)]) (plainFor_of_name pn1) O0 (fun m => by first | rfl | (simp [entryFrame, mkF, argsToLocals, Value.category]; done)) ?_
  intro p e s m below meth c T0 hy hml hret hlk hnm W0
  refine o_aloadN W0 (pc' := 1) (hb hy d16_0) rfl rfl rfl ?_
  refine o_getF W0 (w51 hw) Via.refl F_a1_mean (pc' := 4) (hb hy d16_1) rfl ?_
  intro T1 W1
  exact o_retA W1 hlk (v := (.ref gZ)) hret rfl rfl (hb hy d16_4) (by decide) (by decide) rfl
theorem rm14 (l : Launch) (Z : State) (a0 : Array Value) (hw : ∀ d ∈ tables_1, d.before a0 Z = true) (gZ a1 : Addr) (h0 : Heap) (O0 : Old Z Z.heap.size h0) (F_a1_max : Fld Z h0 a1 "com/example/sluicegate/sluicegate/job/MetricReport" "max" "Ljava/time/Duration;" (.ref gZ)) :
    CtrN l Z (⟨"com/example/sluicegate/sluicegate/job/MetricReport", "max", "()Ljava/time/Duration;"⟩ : MethodName) prog_16_method_9_code 1 (some (.object "java/time/Duration")) [] (⟨0, 0, 0, 0⟩ : Room) #[(.ref a1)] h0 [] (fun v h => v = some (.ref gZ)) := by
  refine CtrN.intro (L0 := #[.val (.ref a1)]) (plainFor_of_name pn1) O0 (fun m => by first | rfl | (simp [entryFrame, mkF, argsToLocals, Value.category]; done)) ?_
  intro p e s m below meth c T0 hy hml hret hlk hnm W0
  refine o_aloadN W0 (pc' := 1) (hb hy d17_0) rfl rfl rfl ?_
  refine o_getF W0 (w53 hw) Via.refl F_a1_max (pc' := 4) (hb hy d17_1) rfl ?_
  intro T1 W1
  exact o_retA W1 hlk (v := (.ref gZ)) hret rfl rfl (hb hy d17_4) (by decide) (by decide) rfl
theorem rm_law (l : Launch) (Z : State) (a0 : Array Value) (hw : ∀ d ∈ tables_1, d.before a0 Z = true) (gCS : Int32) (gC gM gZ : Addr) (p0 p1 : Int32) (p2 p3 : Int64) (h0 : Heap) (O0 : Old Z Z.heap.size h0) (SgM : Sta Z Z.heap "com/example/sluicegate/sluicegate/job/MetricReport$Type" "METER" "Lcom/example/sluicegate/sluicegate/job/MetricReport$Type;" (.ref gM)) (SgZ : Sta Z Z.heap "java/time/Duration" "ZERO" "Ljava/time/Duration;" (.ref gZ)) (SgC : Sta Z Z.heap "com/example/sluicegate/sluicegate/job/MetricReport$Type" "COUNTER" "Lcom/example/sluicegate/sluicegate/job/MetricReport$Type;" (.ref gC)) (SgCS : Sta Z Z.heap "java/lang/String" "COMPACT_STRINGS" "Z" (.int gCS)) (NgCS : ¬ (gCS = (0 : Int32))) :
    CtrW l Z consts_1 x code maxLocals ret tables_1 room_1 #[(.int p0), (.int p1), (.long p2), (.long p3)] h0 [] (fun v _ => v = some (.int 1)) := by
  refine CtrW.intro (L0 := #[.val (.int p0), .val (.int p1), .val (.long p2), .second, .val (.long p3), .second, .unset, .unset, .unset, .unset, .unset]) (plainFor_of_name pn2) O0 (fun m => by first | rfl | (simp [entryFrame, mkF, argsToLocals, Value.category, maxLocals]; done)) ?_
  intro p e s m below meth c T0 V0 hy hml hret hlk hnm W0
  refine o_iloadN W0 (pc' := 1) (hb hy at_0) rfl rfl ?_
  refine o_iconst W0 (v := 3) (pc' := 2) (hb hy at_1) rfl rfl ?_
  rcases own_and3 p1 with ek1 | ek1 | ek1 | ek1
  · refine o_iand W0 (v := 0) (pc' := 3) (hb hy at_2) ek1 rfl ?_
    refine o_istore W0 (L' := #[.val (.int p0), .val (.int p1), .val (.long p2), .second, .val (.long p3), .second, .val (.int 0), .unset, .unset, .unset, .unset]) (pc' := 5) (hb hy at_3) rfl rfl ?_
    refine o_iload W0 (pc' := 7) (hb hy at_5) rfl rfl ?_
    refine o_newP W0 (aty := .char) (w0 hw) (fun _ E => IW.ext E W0.inv) (by decide) (cap := 0) (by decide) (by decide) (pc' := 9) (hb hy at_7) rfl (cells' := 1) (slots' := 0) rfl rfl (by decide) (by decide) (vs := []) (dv := (.int 0)) rfl rfl ?_
    intro b2 T2 h2 k2 W2 E2 ge2 gz2 gb2 V2
    refine o_astore W2 (L' := #[.val (.int p0), .val (.int p1), .val (.long p2), .second, .val (.long p3), .second, .val (.int 0), .val (.ref b2), .unset, .unset, .unset]) (pc' := 11) (hb hy at_9) rfl rfl rfl ?_
    refine o_iload W2 (pc' := 13) (hb hy at_11) rfl rfl ?_
    refine o_ifY W2 (pc' := 26) (hb hy at_13) (XT.i0_le_t (by decide)) (by decide) rfl ?_
    refine o_iload W2 (pc' := 28) (hb hy at_26) rfl rfl ?_
    refine o_iconst W2 (v := 1) (pc' := 29) (hb hy at_28) rfl rfl ?_
    refine o_icmpY W2 (pc' := 45) (hb hy at_29) (XT.ii_le_t (by decide)) (by decide) rfl ?_
    refine o_iload W2 (pc' := 47) (hb hy at_45) rfl rfl ?_
    refine o_iconst W2 (v := 2) (pc' := 48) (hb hy at_47) rfl rfl ?_
    refine o_icmpY W2 (pc' := 64) (hb hy at_48) (XT.ii_le_t (by decide)) (by decide) rfl ?_
    refine o_new W2 (w1 hw) (w2 hw) (w3 hw) (fun _ E => IW.ext E W2.inv) (pc' := 67) (hb hy at_64) rfl (cells' := 2) (slots' := 4) rfl rfl (by decide) (by decide) ?_
    intro b3 T3 h3 W3 E3 ge3 gz3 gb3 A3 D3
    have Fb3_coder : Fld Z h3 b3 "java/lang/String" "coder" "B" (.int 0) := D3 (Or.inr (w27 hw)) (ty := .byte) (by decide)
    have Fb3_value : Fld Z h3 b3 "java/lang/String" "value" "[B" .null := D3 (Or.inr (w29 hw)) (ty := (.array .byte)) (by decide)
    refine o_dup W3 (pc' := 68) (hb hy at_67) rfl rfl ?_
    refine o_aload W3 (pc' := 70) (hb hy at_68) rfl rfl rfl ?_
    have c4 := (V2.ext E3)
    refine o_specialW W3 (y := (⟨"java/lang/String", "<init>", "([C)V"⟩ : MethodName)) rfl (w4 hw) (w5 hw) (w6 hw) (by decide) (a := b3) (argsL := [(.ref b2)]) (CtrW.back (Wd := 1) W3 (rm2 l Z a0 hw b3 b2 k2 h3 W3.old c4 A3 Fb3_value Fb3_coder gz3) (w6 hw) (w3 hw) (by decide) (by decide) (own_EL hw)) (by rw [hml]; rfl) (lenOf pd1 rfl) (S := [(.ref b3)]) rfl (by exact Nat.le_of_eq rfl) (pc' := 73) (hb hy at_70) rfl (cells' := 6) (slots' := 12) rfl rfl (by decide) (by decide) (wy := [b3]) (fun _ _ _ q => ⟨q.1, q.2.1⟩) (allS ⟨gz3, (Or.inr gb3)⟩ all0)  ?_
    intro v5 T5 h5 V5 lo5 W5 K5 C5 q5
    obtain ⟨r1_5, r2_5, P5_0, P5_1, P5_2, rfl⟩ := q5.2.2
    show Gl _ _ _ _ _ _ _ _ [(.ref b3)]
    refine o_astore W5 (L' := #[.val (.int p0), .val (.int p1), .val (.long p2), .second, .val (.long p3), .second, .val (.int 0), .val (.ref b2), .val (.ref b3), .unset, .unset]) (pc' := 75) (hb hy at_73) rfl rfl rfl ?_
    refine o_aload W5 (pc' := 77) (hb hy at_75) rfl rfl rfl ?_
    refine o_lloadN W5 (pc' := 78) (hb hy at_77) rfl rfl ?_
    refine o_aconstNull W5 (pc' := 79) (hb hy at_78) rfl ?_
    refine o_lload W5 (pc' := 81) (hb hy at_79) rfl rfl ?_
    refine o_static W5 (y := (⟨"com/example/sluicegate/sluicegate/job/MetricReport", "meter", "(Ljava/lang/String;JLjava/util/Map;J)Lcom/example/sluicegate/sluicegate/job/MetricReport;"⟩ : MethodName)) (w30 hw) (w31 hw) (w32 hw) (w33 hw) (by decide) (argsL := [(.ref b3), (.long p2), .null, (.long p3)]) (CtrN.back (Wd := 0) W5 (rm4 l Z a0 hw gM gZ b3 p2 p3 h5 W5.old SgM SgZ) (w33 hw) (w32 hw) (by decide) (by decide)) (by rw [hml]; rfl) (lenOf pd3 rfl) (S := []) rfl (by exact Nat.le_of_eq rfl) (pc' := 84) (hb hy at_81) rfl (cells' := 7) (slots' := 19) rfl rfl (by decide) (by decide) (wy := []) (fun _ _ _ q => ⟨q.1, q.2.1⟩) all0 (fun _ K => IW.keep K sf0 W5.inv) ?_
    intro v6 T6 h6 lo6 W6 K6 q6
    obtain ⟨r1_6, P6_0, P6_1, P6_2, P6_3, P6_4, P6_5, P6_6, P6_7, P6_8, rfl⟩ := q6.2.2
    show Gl _ _ _ _ _ _ _ _ [(.ref r1_6)]
    refine o_astore W6 (L' := #[.val (.int p0), .val (.int p1), .val (.long p2), .second, .val (.long p3), .second, .val (.int 0), .val (.ref b2), .val (.ref b3), .val (.ref r1_6), .unset]) (pc' := 86) (hb hy at_84) rfl rfl rfl ?_
    refine o_aload W6 (pc' := 88) (hb hy at_86) rfl rfl rfl ?_
    refine o_lconst W6 (v := (0 : Int64)) (pc' := 89) (hb hy at_88) (by decide) rfl ?_
    refine o_aconstNull W6 (pc' := 90) (hb hy at_89) rfl ?_
    refine o_lconst W6 (v := (0 : Int64)) (pc' := 91) (hb hy at_90) (by decide) rfl ?_
    refine o_static W6 (y := (⟨"com/example/sluicegate/sluicegate/job/MetricReport", "counter", "(Ljava/lang/String;JLjava/util/Map;J)Lcom/example/sluicegate/sluicegate/job/MetricReport;"⟩ : MethodName)) (w59 hw) (w60 hw) (w32 hw) (w61 hw) (by decide) (argsL := [(.ref b3), (.long (0 : Int64)), .null, (.long (0 : Int64))]) (CtrN.back (Wd := 0) W6 (rm6 l Z a0 hw gC gZ b3 h6 W6.old SgC SgZ) (w61 hw) (w32 hw) (by decide) (by decide)) (by rw [hml]; rfl) (lenOf pd3 rfl) (S := []) rfl (by exact Nat.le_of_eq rfl) (pc' := 94) (hb hy at_91) rfl (cells' := 8) (slots' := 26) rfl rfl (by decide) (by decide) (wy := []) (fun _ _ _ q => ⟨q.1, q.2.1⟩) all0 (fun _ K => IW.keep K sf0 W6.inv) ?_
    intro v7 T7 h7 lo7 W7 K7 q7
    obtain ⟨r1_7, P7_0, P7_1, P7_2, P7_3, P7_4, P7_5, P7_6, P7_7, P7_8, rfl⟩ := q7.2.2
    show Gl _ _ _ _ _ _ _ _ [(.ref r1_7)]
    refine o_astore W7 (L' := #[.val (.int p0), .val (.int p1), .val (.long p2), .second, .val (.long p3), .second, .val (.int 0), .val (.ref b2), .val (.ref b3), .val (.ref r1_6), .val (.ref r1_7)]) (pc' := 96) (hb hy at_94) rfl rfl rfl ?_
    refine o_aload W7 (pc' := 98) (hb hy at_96) rfl rfl rfl ?_
    refine o_aload W7 (pc' := 100) (hb hy at_98) rfl rfl rfl ?_
    have c8 := (P6_2.keep K7 nin0)
    have c9 := (P6_1.keep K7)
    refine o_virtual W7 (y := (⟨"com/example/sluicegate/sluicegate/job/MetricReport", "name", "()Ljava/lang/String;"⟩ : MethodName)) (z := (⟨"com/example/sluicegate/sluicegate/job/MetricReport", "name", "()Ljava/lang/String;"⟩ : MethodName)) (w64 hw) (w65 hw) (o_nf W7 rfl (w67 hw)) (w67 hw) (w66 hw) (by decide) c9 (argsL := []) (CtrN.back (Wd := 1) W7 (rm7 l Z a0 hw r1_6 b3 h7 W7.old c8) (w68 hw) (w32 hw) (by decide) (by decide)) (by rw [hml]; rfl) (lenOf pd4 rfl) (S := [(.ref b3)]) rfl (by exact Nat.le_of_eq rfl) (pc' := 103) (hb hy at_100) rfl (cells' := 8) (slots' := 26) rfl rfl (by decide) (by decide) (wy := []) (fun _ _ _ q => ⟨q.1, q.2.1⟩) all0 (fun _ K => IW.keep K sf0 W7.inv) ?_
    intro v10 T10 h10 lo10 W10 K10 q10
    obtain rfl := q10.2.2
    show Gl _ _ _ _ _ _ _ _ [(.ref b3), (.ref b3)]
    have c11 := ((((A3.keep K5).keep K6).keep K7).keep K10)
    refine o_virtual W10 (y := (⟨"java/lang/String", "equals", "(Ljava/lang/Object;)Z"⟩ : MethodName)) (z := (⟨"java/lang/String", "equals", "(Ljava/lang/Object;)Z"⟩ : MethodName)) (w69 hw) (w70 hw) (o_nf W10 rfl (w72 hw)) (w72 hw) (w71 hw) (by decide) c11 (argsL := [(.ref b3)]) (CtrN.back (Wd := 0) W10 (rm8 l Z a0 hw b3 h10 W10.old ) (w73 hw) (w3 hw) (by decide) (by decide)) (by rw [hml]; rfl) (lenOf pd5 rfl) (S := []) rfl (by exact Nat.le_of_eq rfl) (pc' := 106) (hb hy at_103) rfl (cells' := 8) (slots' := 26) rfl rfl (by decide) (by decide) (wy := []) (fun _ _ _ q => ⟨q.1, q.2.1⟩) all0 (fun _ K => IW.keep K sf0 W10.inv) ?_
    intro v12 T12 h12 lo12 W12 K12 q12
    obtain rfl := q12.2.2
    show Gl _ _ _ _ _ _ _ _ [(.int 1)]
    refine o_ifN W12 (pc' := 109) (hb hy at_106) (XT.i0_eq_f (by decide)) rfl ?_
    refine o_aload W12 (pc' := 111) (hb hy at_109) rfl rfl rfl ?_
    have c13 := (((P6_3.keep K7 nin0).keep K10 nin0).keep K12 nin0)
    have c14 := ((c9.keep K10).keep K12)
    refine o_virtual W12 (y := (⟨"com/example/sluicegate/sluicegate/job/MetricReport", "type", "()Lcom/example/sluicegate/sluicegate/job/MetricReport$Type;"⟩ : MethodName)) (z := (⟨"com/example/sluicegate/sluicegate/job/MetricReport", "type", "()Lcom/example/sluicegate/sluicegate/job/MetricReport$Type;"⟩ : MethodName)) (w74 hw) (w75 hw) (o_nf W12 rfl (w77 hw)) (w77 hw) (w76 hw) (by decide) c14 (argsL := []) (CtrN.back (Wd := 0) W12 (rm9 l Z a0 hw gM r1_6 h12 W12.old c13) (w78 hw) (w32 hw) (by decide) (by decide)) (by rw [hml]; rfl) (lenOf pd6 rfl) (S := []) rfl (by exact Nat.le_of_eq rfl) (pc' := 114) (hb hy at_111) rfl (cells' := 8) (slots' := 26) rfl rfl (by decide) (by decide) (wy := []) (fun _ _ _ q => ⟨q.1, q.2.1⟩) all0 (fun _ K => IW.keep K sf0 W12.inv) ?_
    intro v15 T15 h15 lo15 W15 K15 q15
    obtain rfl := q15.2.2
    show Gl _ _ _ _ _ _ _ _ [(.ref gM)]
    refine o_getS W15 (w79 hw) Via.refl (SgM.ext W15.ox) (pc' := 117) (hb hy at_114) rfl ?_
    intro T16 W16
    refine o_acmpN W16 (pc' := 120) (hb hy at_117) rfl rfl (XT.aa_ne_f rfl) rfl ?_
    refine o_aload W16 (pc' := 122) (hb hy at_120) rfl rfl rfl ?_
    have c17 := ((((P6_4.keep K7 nin0).keep K10 nin0).keep K12 nin0).keep K15 nin0)
    have c18 := (c14.keep K15)
    refine o_virtual W16 (y := (⟨"com/example/sluicegate/sluicegate/job/MetricReport", "count", "()J"⟩ : MethodName)) (z := (⟨"com/example/sluicegate/sluicegate/job/MetricReport", "count", "()J"⟩ : MethodName)) (w80 hw) (w81 hw) (o_nf W16 rfl (w83 hw)) (w83 hw) (w82 hw) (by decide) c18 (argsL := []) (CtrN.back (Wd := 0) W16 (rm10 l Z a0 hw r1_6 p2 h15 W16.old c17) (w84 hw) (w32 hw) (by decide) (by decide)) (by rw [hml]; rfl) (lenOf pd7 rfl) (S := []) rfl (by exact Nat.le_of_eq rfl) (pc' := 125) (hb hy at_122) rfl (cells' := 8) (slots' := 26) rfl rfl (by decide) (by decide) (wy := []) (fun _ _ _ q => ⟨q.1, q.2.1⟩) all0 (fun _ K => IW.keep K sf0 W16.inv) ?_
    intro v19 T19 h19 lo19 W19 K19 q19
    obtain rfl := q19.2.2
    show Gl _ _ _ _ _ _ _ _ [(.long p2)]
    refine o_lloadN W19 (pc' := 126) (hb hy at_125) rfl rfl ?_
    refine o_lcmp W19 (v := 0) (pc' := 127) (hb hy at_126) (own_lcs _) rfl ?_
    refine o_ifN W19 (pc' := 130) (hb hy at_127) (XT.i0_ne_f (by decide)) rfl ?_
    refine o_aload W19 (pc' := 132) (hb hy at_130) rfl rfl rfl ?_
    have c20 := (((((P6_8.keep K7 nin0).keep K10 nin0).keep K12 nin0).keep K15 nin0).keep K19 nin0)
    have c21 := (c18.keep K19)
    refine o_virtual W19 (y := (⟨"com/example/sluicegate/sluicegate/job/MetricReport", "timestamp", "()J"⟩ : MethodName)) (z := (⟨"com/example/sluicegate/sluicegate/job/MetricReport", "timestamp", "()J"⟩ : MethodName)) (w85 hw) (w86 hw) (o_nf W19 rfl (w88 hw)) (w88 hw) (w87 hw) (by decide) c21 (argsL := []) (CtrN.back (Wd := 0) W19 (rm11 l Z a0 hw r1_6 p3 h19 W19.old c20) (w89 hw) (w32 hw) (by decide) (by decide)) (by rw [hml]; rfl) (lenOf pd7 rfl) (S := []) rfl (by exact Nat.le_of_eq rfl) (pc' := 135) (hb hy at_132) rfl (cells' := 8) (slots' := 26) rfl rfl (by decide) (by decide) (wy := []) (fun _ _ _ q => ⟨q.1, q.2.1⟩) all0 (fun _ K => IW.keep K sf0 W19.inv) ?_
    intro v22 T22 h22 lo22 W22 K22 q22
    obtain rfl := q22.2.2
    show Gl _ _ _ _ _ _ _ _ [(.long p3)]
    refine o_lload W22 (pc' := 137) (hb hy at_135) rfl rfl ?_
    refine o_lcmp W22 (v := 0) (pc' := 138) (hb hy at_137) (own_lcs _) rfl ?_
    refine o_ifN W22 (pc' := 141) (hb hy at_138) (XT.i0_ne_f (by decide)) rfl ?_
    refine o_aload W22 (pc' := 143) (hb hy at_141) rfl rfl rfl ?_
    have c23 := ((((((P6_7.keep K7 nin0).keep K10 nin0).keep K12 nin0).keep K15 nin0).keep K19 nin0).keep K22 nin0)
    have c24 := (c21.keep K22)
    refine o_virtual W22 (y := (⟨"com/example/sluicegate/sluicegate/job/MetricReport", "tags", "()Ljava/util/Map;"⟩ : MethodName)) (z := (⟨"com/example/sluicegate/sluicegate/job/MetricReport", "tags", "()Ljava/util/Map;"⟩ : MethodName)) (w90 hw) (w91 hw) (o_nf W22 rfl (w93 hw)) (w93 hw) (w92 hw) (by decide) c24 (argsL := []) (CtrN.back (Wd := 0) W22 (rm12 l Z a0 hw r1_6 h22 W22.old c23) (w94 hw) (w32 hw) (by decide) (by decide)) (by rw [hml]; rfl) (lenOf pd8 rfl) (S := []) rfl (by exact Nat.le_of_eq rfl) (pc' := 146) (hb hy at_143) rfl (cells' := 8) (slots' := 26) rfl rfl (by decide) (by decide) (wy := []) (fun _ _ _ q => ⟨q.1, q.2.1⟩) all0 (fun _ K => IW.keep K sf0 W22.inv) ?_
    intro v25 T25 h25 lo25 W25 K25 q25
    obtain rfl := q25.2.2
    show Gl _ _ _ _ _ _ _ _ [.null]
    refine o_ifnonnullN W25 (pc' := 149) (hb hy at_146) rfl ?_
    refine o_aload W25 (pc' := 151) (hb hy at_149) rfl rfl rfl ?_
    have c26 := (((((((P6_5.keep K7 nin0).keep K10 nin0).keep K12 nin0).keep K15 nin0).keep K19 nin0).keep K22 nin0).keep K25 nin0)
    have c27 := (c24.keep K25)
    refine o_virtual W25 (y := (⟨"com/example/sluicegate/sluicegate/job/MetricReport", "mean", "()Ljava/time/Duration;"⟩ : MethodName)) (z := (⟨"com/example/sluicegate/sluicegate/job/MetricReport", "mean", "()Ljava/time/Duration;"⟩ : MethodName)) (w95 hw) (w96 hw) (o_nf W25 rfl (w98 hw)) (w98 hw) (w97 hw) (by decide) c27 (argsL := []) (CtrN.back (Wd := 0) W25 (rm13 l Z a0 hw gZ r1_6 h25 W25.old c26) (w99 hw) (w32 hw) (by decide) (by decide)) (by rw [hml]; rfl) (lenOf pd9 rfl) (S := []) rfl (by exact Nat.le_of_eq rfl) (pc' := 154) (hb hy at_151) rfl (cells' := 8) (slots' := 26) rfl rfl (by decide) (by decide) (wy := []) (fun _ _ _ q => ⟨q.1, q.2.1⟩) all0 (fun _ K => IW.keep K sf0 W25.inv) ?_
    intro v28 T28 h28 lo28 W28 K28 q28
    obtain rfl := q28.2.2
    show Gl _ _ _ _ _ _ _ _ [(.ref gZ)]
    refine o_aload W28 (pc' := 156) (hb hy at_154) rfl rfl rfl ?_
    have c29 := (((((((P7_5.keep K10 nin0).keep K12 nin0).keep K15 nin0).keep K19 nin0).keep K22 nin0).keep K25 nin0).keep K28 nin0)
    have c30 := (((((((P7_1.keep K10).keep K12).keep K15).keep K19).keep K22).keep K25).keep K28)
    refine o_virtual W28 (y := (⟨"com/example/sluicegate/sluicegate/job/MetricReport", "mean", "()Ljava/time/Duration;"⟩ : MethodName)) (z := (⟨"com/example/sluicegate/sluicegate/job/MetricReport", "mean", "()Ljava/time/Duration;"⟩ : MethodName)) (w95 hw) (w96 hw) (o_nf W28 rfl (w98 hw)) (w98 hw) (w97 hw) (by decide) c30 (argsL := []) (CtrN.back (Wd := 1) W28 (rm13 l Z a0 hw gZ r1_7 h28 W28.old c29) (w99 hw) (w32 hw) (by decide) (by decide)) (by rw [hml]; rfl) (lenOf pd9 rfl) (S := [(.ref gZ)]) rfl (by exact Nat.le_of_eq rfl) (pc' := 159) (hb hy at_156) rfl (cells' := 8) (slots' := 26) rfl rfl (by decide) (by decide) (wy := []) (fun _ _ _ q => ⟨q.1, q.2.1⟩) all0 (fun _ K => IW.keep K sf0 W28.inv) ?_
    intro v31 T31 h31 lo31 W31 K31 q31
    obtain rfl := q31.2.2
    show Gl _ _ _ _ _ _ _ _ [(.ref gZ), (.ref gZ)]
    refine o_acmpN W31 (pc' := 162) (hb hy at_159) rfl rfl (XT.aa_ne_f rfl) rfl ?_
    refine o_aload W31 (pc' := 164) (hb hy at_162) rfl rfl rfl ?_
    have c32 := (((((((((P6_6.keep K7 nin0).keep K10 nin0).keep K12 nin0).keep K15 nin0).keep K19 nin0).keep K22 nin0).keep K25 nin0).keep K28 nin0).keep K31 nin0)
    have c33 := ((c27.keep K28).keep K31)
    refine o_virtual W31 (y := (⟨"com/example/sluicegate/sluicegate/job/MetricReport", "max", "()Ljava/time/Duration;"⟩ : MethodName)) (z := (⟨"com/example/sluicegate/sluicegate/job/MetricReport", "max", "()Ljava/time/Duration;"⟩ : MethodName)) (w100 hw) (w101 hw) (o_nf W31 rfl (w103 hw)) (w103 hw) (w102 hw) (by decide) c33 (argsL := []) (CtrN.back (Wd := 0) W31 (rm14 l Z a0 hw gZ r1_6 h31 W31.old c32) (w104 hw) (w32 hw) (by decide) (by decide)) (by rw [hml]; rfl) (lenOf pd9 rfl) (S := []) rfl (by exact Nat.le_of_eq rfl) (pc' := 167) (hb hy at_164) rfl (cells' := 8) (slots' := 26) rfl rfl (by decide) (by decide) (wy := []) (fun _ _ _ q => ⟨q.1, q.2.1⟩) all0 (fun _ K => IW.keep K sf0 W31.inv) ?_
    intro v34 T34 h34 lo34 W34 K34 q34
    obtain rfl := q34.2.2
    show Gl _ _ _ _ _ _ _ _ [(.ref gZ)]
    refine o_aload W34 (pc' := 169) (hb hy at_167) rfl rfl rfl ?_
    have c35 := (((((((((P7_6.keep K10 nin0).keep K12 nin0).keep K15 nin0).keep K19 nin0).keep K22 nin0).keep K25 nin0).keep K28 nin0).keep K31 nin0).keep K34 nin0)
    have c36 := ((c30.keep K31).keep K34)
    refine o_virtual W34 (y := (⟨"com/example/sluicegate/sluicegate/job/MetricReport", "max", "()Ljava/time/Duration;"⟩ : MethodName)) (z := (⟨"com/example/sluicegate/sluicegate/job/MetricReport", "max", "()Ljava/time/Duration;"⟩ : MethodName)) (w100 hw) (w101 hw) (o_nf W34 rfl (w103 hw)) (w103 hw) (w102 hw) (by decide) c36 (argsL := []) (CtrN.back (Wd := 1) W34 (rm14 l Z a0 hw gZ r1_7 h34 W34.old c35) (w104 hw) (w32 hw) (by decide) (by decide)) (by rw [hml]; rfl) (lenOf pd9 rfl) (S := [(.ref gZ)]) rfl (by exact Nat.le_of_eq rfl) (pc' := 172) (hb hy at_169) rfl (cells' := 8) (slots' := 26) rfl rfl (by decide) (by decide) (wy := []) (fun _ _ _ q => ⟨q.1, q.2.1⟩) all0 (fun _ K => IW.keep K sf0 W34.inv) ?_
    intro v37 T37 h37 lo37 W37 K37 q37
    obtain rfl := q37.2.2
    show Gl _ _ _ _ _ _ _ _ [(.ref gZ), (.ref gZ)]
    refine o_acmpN W37 (pc' := 175) (hb hy at_172) rfl rfl (XT.aa_ne_f rfl) rfl ?_
    refine o_iconst W37 (v := 1) (pc' := 176) (hb hy at_175) rfl rfl ?_
    refine o_goto W37 (pc' := 180) (hb hy at_176) (by decide) rfl ?_
    exact o_retNW W37 (own_EL hw) hlk (t := .boolean) hret (by simp) (z' := (1 : Int32)) (by decide) (hb hy at_180) (by decide) (by decide) rfl
  · refine o_iand W0 (v := 1) (pc' := 3) (hb hy at_2) ek1 rfl ?_
    refine o_istore W0 (L' := #[.val (.int p0), .val (.int p1), .val (.long p2), .second, .val (.long p3), .second, .val (.int 1), .unset, .unset, .unset, .unset]) (pc' := 5) (hb hy at_3) rfl rfl ?_
    refine o_iload W0 (pc' := 7) (hb hy at_5) rfl rfl ?_
    refine o_newP W0 (aty := .char) (w0 hw) (fun _ E => IW.ext E W0.inv) (by decide) (cap := 1) (by decide) (by decide) (pc' := 9) (hb hy at_7) rfl (cells' := 1) (slots' := 1) rfl rfl (by decide) (by decide) (vs := [(.int 0)]) (dv := (.int 0)) rfl rfl ?_
    intro b38 T38 h38 k38 W38 E38 ge38 gz38 gb38 V38
    refine o_astore W38 (L' := #[.val (.int p0), .val (.int p1), .val (.long p2), .second, .val (.long p3), .second, .val (.int 1), .val (.ref b38), .unset, .unset, .unset]) (pc' := 11) (hb hy at_9) rfl rfl rfl ?_
    refine o_iload W38 (pc' := 13) (hb hy at_11) rfl rfl ?_
    refine o_ifN W38 (pc' := 16) (hb hy at_13) (XT.i0_le_f (by decide)) rfl ?_
    refine o_aload W38 (pc' := 18) (hb hy at_16) rfl rfl rfl ?_
    refine o_iconst W38 (v := 0) (pc' := 19) (hb hy at_18) rfl rfl ?_
    refine o_iloadN W38 (pc' := 20) (hb hy at_19) rfl rfl ?_
    refine o_sipush W38 (v := 255) (pc' := 23) (hb hy at_20) (by decide) rfl ?_
    refine o_iand W38 (v := (p0 &&& (255 : Int32))) (pc' := 24) (hb hy at_23) rfl rfl ?_
    refine o_i2c W38 (v := (p0 &&& (255 : Int32))) (pc' := 25) (hb hy at_24) (own_i2c (own_b255 _)) rfl ?_
    refine o_stC W38 V38 (i := 0) (x' := (p0 &&& (255 : Int32))) (by decide) (by decide) (by decide) (Nat.lt_of_sub_eq_succ rfl) (own_i2c (own_b255 _)) (vs' := [(.int (p0 &&& (255 : Int32)))]) rfl gz38 (Or.inr gb38) (fun _ R => IW.wr R (Safe.arv W38.al V38 (by decide)) W38.inv) (pc' := 26) (hb hy at_25) rfl ?_
    intro T39 h39 lo39 W39 R39 V39
    refine o_iload W39 (pc' := 28) (hb hy at_26) rfl rfl ?_
    refine o_iconst W39 (v := 1) (pc' := 29) (hb hy at_28) rfl rfl ?_
    refine o_icmpY W39 (pc' := 45) (hb hy at_29) (XT.ii_le_t (by decide)) (by decide) rfl ?_
    refine o_iload W39 (pc' := 47) (hb hy at_45) rfl rfl ?_
    refine o_iconst W39 (v := 2) (pc' := 48) (hb hy at_47) rfl rfl ?_
    refine o_icmpY W39 (pc' := 64) (hb hy at_48) (XT.ii_le_t (by decide)) (by decide) rfl ?_
    refine o_new W39 (w1 hw) (w2 hw) (w3 hw) (fun _ E => IW.ext E W39.inv) (pc' := 67) (hb hy at_64) rfl (cells' := 2) (slots' := 5) rfl rfl (by decide) (by decide) ?_
    intro b40 T40 h40 W40 E40 ge40 gz40 gb40 A40 D40
    have Fb40_coder : Fld Z h40 b40 "java/lang/String" "coder" "B" (.int 0) := D40 (Or.inr (w27 hw)) (ty := .byte) (by decide)
    have Fb40_value : Fld Z h40 b40 "java/lang/String" "value" "[B" .null := D40 (Or.inr (w29 hw)) (ty := (.array .byte)) (by decide)
    refine o_dup W40 (pc' := 68) (hb hy at_67) rfl rfl ?_
    refine o_aload W40 (pc' := 70) (hb hy at_68) rfl rfl rfl ?_
    have c41 := (V39.ext E40)
    have ok42 : own_ok [(p0 &&& (255 : Int32))] := ⟨by simp only [List.mem_cons, List.not_mem_nil, or_false, forall_eq_or_imp, forall_eq, false_imp_iff, implies_true]; exact (own_b255 _), Nat.le_of_ble_eq_true rfl⟩
    have sf43 := own_safeS (EL := consts_1) W40.al A40 Fb40_value
    refine o_special W40 (y := (⟨"java/lang/String", "<init>", "([C)V"⟩ : MethodName)) rfl (w4 hw) (w5 hw) (w6 hw) (by decide) (a := b40) (argsL := [(.ref b38)]) (StrChars.Road.backV (W := 1) W40.2.2.2.1 (own_hV hw) (kI := 4) (w2 hw) (cs := [(p0 &&& (255 : Int32))]) (bs := [((p0 &&& (255 : Int32))).toInt8.toInt32]) (n := 1) (n0 := Z.heap.size) gz40 W40.zs A40 Fb40_value Fb40_coder c41 (SgCS.ext W40.ox) NgCS rfl rfl (by decide) (by decide) ok42.1 rfl (by decide) (by decide)) (by rw [hml]; rfl) (lenOf pd1 rfl) (S := [(.ref b40)]) rfl (by exact Nat.le_of_eq rfl) (pc' := 73) (hb hy at_70) rfl (cells' := 3) (slots' := 6) rfl rfl (by decide) (by decide) (wy := [b40]) (fun _ _ _ q => ⟨q.2.1, q.2.2.1⟩) (allS ⟨gz40, (Or.inr gb40)⟩ all0) (fun _ K => IW.keep K (sfS sf43 sf0) W40.inv) ?_
    intro v44 T44 h44 lo44 W44 K44 q44
    obtain ⟨rfl, -, -, X44, Fc44, t44, kb44, gz44, ge44, -, Fv44, A44⟩ := q44
    have B44 : Arv Z h44 t44 kb44 .byte (1 : Int32) [(.int (StrChars.lo8 (p0 &&& (255 : Int32))))] (.int 0) := A44
    show Gl _ _ _ _ _ _ _ _ [(.ref b40)]
    refine o_astore W44 (L' := #[.val (.int p0), .val (.int p1), .val (.long p2), .second, .val (.long p3), .second, .val (.int 1), .val (.ref b38), .val (.ref b40), .unset, .unset]) (pc' := 75) (hb hy at_73) rfl rfl rfl ?_
    refine o_aload W44 (pc' := 77) (hb hy at_75) rfl rfl rfl ?_
    refine o_lloadN W44 (pc' := 78) (hb hy at_77) rfl rfl ?_
    refine o_aconstNull W44 (pc' := 79) (hb hy at_78) rfl ?_
    refine o_lload W44 (pc' := 81) (hb hy at_79) rfl rfl ?_
    refine o_static W44 (y := (⟨"com/example/sluicegate/sluicegate/job/MetricReport", "meter", "(Ljava/lang/String;JLjava/util/Map;J)Lcom/example/sluicegate/sluicegate/job/MetricReport;"⟩ : MethodName)) (w30 hw) (w31 hw) (w32 hw) (w33 hw) (by decide) (argsL := [(.ref b40), (.long p2), .null, (.long p3)]) (CtrN.back (Wd := 0) W44 (rm4 l Z a0 hw gM gZ b40 p2 p3 h44 W44.old SgM SgZ) (w33 hw) (w32 hw) (by decide) (by decide)) (by rw [hml]; rfl) (lenOf pd3 rfl) (S := []) rfl (by exact Nat.le_of_eq rfl) (pc' := 84) (hb hy at_81) rfl (cells' := 4) (slots' := 13) rfl rfl (by decide) (by decide) (wy := []) (fun _ _ _ q => ⟨q.1, q.2.1⟩) all0 (fun _ K => IW.keep K sf0 W44.inv) ?_
    intro v45 T45 h45 lo45 W45 K45 q45
    obtain ⟨r1_45, P45_0, P45_1, P45_2, P45_3, P45_4, P45_5, P45_6, P45_7, P45_8, rfl⟩ := q45.2.2
    show Gl _ _ _ _ _ _ _ _ [(.ref r1_45)]
    refine o_astore W45 (L' := #[.val (.int p0), .val (.int p1), .val (.long p2), .second, .val (.long p3), .second, .val (.int 1), .val (.ref b38), .val (.ref b40), .val (.ref r1_45), .unset]) (pc' := 86) (hb hy at_84) rfl rfl rfl ?_
    refine o_aload W45 (pc' := 88) (hb hy at_86) rfl rfl rfl ?_
    refine o_lconst W45 (v := (0 : Int64)) (pc' := 89) (hb hy at_88) (by decide) rfl ?_
    refine o_aconstNull W45 (pc' := 90) (hb hy at_89) rfl ?_
    refine o_lconst W45 (v := (0 : Int64)) (pc' := 91) (hb hy at_90) (by decide) rfl ?_
    refine o_static W45 (y := (⟨"com/example/sluicegate/sluicegate/job/MetricReport", "counter", "(Ljava/lang/String;JLjava/util/Map;J)Lcom/example/sluicegate/sluicegate/job/MetricReport;"⟩ : MethodName)) (w59 hw) (w60 hw) (w32 hw) (w61 hw) (by decide) (argsL := [(.ref b40), (.long (0 : Int64)), .null, (.long (0 : Int64))]) (CtrN.back (Wd := 0) W45 (rm6 l Z a0 hw gC gZ b40 h45 W45.old SgC SgZ) (w61 hw) (w32 hw) (by decide) (by decide)) (by rw [hml]; rfl) (lenOf pd3 rfl) (S := []) rfl (by exact Nat.le_of_eq rfl) (pc' := 94) (hb hy at_91) rfl (cells' := 5) (slots' := 20) rfl rfl (by decide) (by decide) (wy := []) (fun _ _ _ q => ⟨q.1, q.2.1⟩) all0 (fun _ K => IW.keep K sf0 W45.inv) ?_
    intro v46 T46 h46 lo46 W46 K46 q46
    obtain ⟨r1_46, P46_0, P46_1, P46_2, P46_3, P46_4, P46_5, P46_6, P46_7, P46_8, rfl⟩ := q46.2.2
    show Gl _ _ _ _ _ _ _ _ [(.ref r1_46)]
    refine o_astore W46 (L' := #[.val (.int p0), .val (.int p1), .val (.long p2), .second, .val (.long p3), .second, .val (.int 1), .val (.ref b38), .val (.ref b40), .val (.ref r1_45), .val (.ref r1_46)]) (pc' := 96) (hb hy at_94) rfl rfl rfl ?_
    refine o_aload W46 (pc' := 98) (hb hy at_96) rfl rfl rfl ?_
    refine o_aload W46 (pc' := 100) (hb hy at_98) rfl rfl rfl ?_
    have c47 := (P45_2.keep K46 nin0)
    have c48 := (P45_1.keep K46)
    refine o_virtual W46 (y := (⟨"com/example/sluicegate/sluicegate/job/MetricReport", "name", "()Ljava/lang/String;"⟩ : MethodName)) (z := (⟨"com/example/sluicegate/sluicegate/job/MetricReport", "name", "()Ljava/lang/String;"⟩ : MethodName)) (w64 hw) (w65 hw) (o_nf W46 rfl (w67 hw)) (w67 hw) (w66 hw) (by decide) c48 (argsL := []) (CtrN.back (Wd := 1) W46 (rm7 l Z a0 hw r1_45 b40 h46 W46.old c47) (w68 hw) (w32 hw) (by decide) (by decide)) (by rw [hml]; rfl) (lenOf pd4 rfl) (S := [(.ref b40)]) rfl (by exact Nat.le_of_eq rfl) (pc' := 103) (hb hy at_100) rfl (cells' := 5) (slots' := 20) rfl rfl (by decide) (by decide) (wy := []) (fun _ _ _ q => ⟨q.1, q.2.1⟩) all0 (fun _ K => IW.keep K sf0 W46.inv) ?_
    intro v49 T49 h49 lo49 W49 K49 q49
    obtain rfl := q49.2.2
    show Gl _ _ _ _ _ _ _ _ [(.ref b40), (.ref b40)]
    have c50 := (((X44.keep K45).keep K46).keep K49)
    refine o_virtual W49 (y := (⟨"java/lang/String", "equals", "(Ljava/lang/Object;)Z"⟩ : MethodName)) (z := (⟨"java/lang/String", "equals", "(Ljava/lang/Object;)Z"⟩ : MethodName)) (w69 hw) (w70 hw) (o_nf W49 rfl (w72 hw)) (w72 hw) (w71 hw) (by decide) c50 (argsL := [(.ref b40)]) (CtrN.back (Wd := 0) W49 (rm8 l Z a0 hw b40 h49 W49.old ) (w73 hw) (w3 hw) (by decide) (by decide)) (by rw [hml]; rfl) (lenOf pd5 rfl) (S := []) rfl (by exact Nat.le_of_eq rfl) (pc' := 106) (hb hy at_103) rfl (cells' := 5) (slots' := 20) rfl rfl (by decide) (by decide) (wy := []) (fun _ _ _ q => ⟨q.1, q.2.1⟩) all0 (fun _ K => IW.keep K sf0 W49.inv) ?_
    intro v51 T51 h51 lo51 W51 K51 q51
    obtain rfl := q51.2.2
    show Gl _ _ _ _ _ _ _ _ [(.int 1)]
    refine o_ifN W51 (pc' := 109) (hb hy at_106) (XT.i0_eq_f (by decide)) rfl ?_
    refine o_aload W51 (pc' := 111) (hb hy at_109) rfl rfl rfl ?_
    have c52 := (((P45_3.keep K46 nin0).keep K49 nin0).keep K51 nin0)
    have c53 := ((c48.keep K49).keep K51)
    refine o_virtual W51 (y := (⟨"com/example/sluicegate/sluicegate/job/MetricReport", "type", "()Lcom/example/sluicegate/sluicegate/job/MetricReport$Type;"⟩ : MethodName)) (z := (⟨"com/example/sluicegate/sluicegate/job/MetricReport", "type", "()Lcom/example/sluicegate/sluicegate/job/MetricReport$Type;"⟩ : MethodName)) (w74 hw) (w75 hw) (o_nf W51 rfl (w77 hw)) (w77 hw) (w76 hw) (by decide) c53 (argsL := []) (CtrN.back (Wd := 0) W51 (rm9 l Z a0 hw gM r1_45 h51 W51.old c52) (w78 hw) (w32 hw) (by decide) (by decide)) (by rw [hml]; rfl) (lenOf pd6 rfl) (S := []) rfl (by exact Nat.le_of_eq rfl) (pc' := 114) (hb hy at_111) rfl (cells' := 5) (slots' := 20) rfl rfl (by decide) (by decide) (wy := []) (fun _ _ _ q => ⟨q.1, q.2.1⟩) all0 (fun _ K => IW.keep K sf0 W51.inv) ?_
    intro v54 T54 h54 lo54 W54 K54 q54
    obtain rfl := q54.2.2
    show Gl _ _ _ _ _ _ _ _ [(.ref gM)]
    refine o_getS W54 (w79 hw) Via.refl (SgM.ext W54.ox) (pc' := 117) (hb hy at_114) rfl ?_
    intro T55 W55
    refine o_acmpN W55 (pc' := 120) (hb hy at_117) rfl rfl (XT.aa_ne_f rfl) rfl ?_
    refine o_aload W55 (pc' := 122) (hb hy at_120) rfl rfl rfl ?_
    have c56 := ((((P45_4.keep K46 nin0).keep K49 nin0).keep K51 nin0).keep K54 nin0)
    have c57 := (c53.keep K54)
    refine o_virtual W55 (y := (⟨"com/example/sluicegate/sluicegate/job/MetricReport", "count", "()J"⟩ : MethodName)) (z := (⟨"com/example/sluicegate/sluicegate/job/MetricReport", "count", "()J"⟩ : MethodName)) (w80 hw) (w81 hw) (o_nf W55 rfl (w83 hw)) (w83 hw) (w82 hw) (by decide) c57 (argsL := []) (CtrN.back (Wd := 0) W55 (rm10 l Z a0 hw r1_45 p2 h54 W55.old c56) (w84 hw) (w32 hw) (by decide) (by decide)) (by rw [hml]; rfl) (lenOf pd7 rfl) (S := []) rfl (by exact Nat.le_of_eq rfl) (pc' := 125) (hb hy at_122) rfl (cells' := 5) (slots' := 20) rfl rfl (by decide) (by decide) (wy := []) (fun _ _ _ q => ⟨q.1, q.2.1⟩) all0 (fun _ K => IW.keep K sf0 W55.inv) ?_
    intro v58 T58 h58 lo58 W58 K58 q58
    obtain rfl := q58.2.2
    show Gl _ _ _ _ _ _ _ _ [(.long p2)]
    refine o_lloadN W58 (pc' := 126) (hb hy at_125) rfl rfl ?_
    refine o_lcmp W58 (v := 0) (pc' := 127) (hb hy at_126) (own_lcs _) rfl ?_
    refine o_ifN W58 (pc' := 130) (hb hy at_127) (XT.i0_ne_f (by decide)) rfl ?_
    refine o_aload W58 (pc' := 132) (hb hy at_130) rfl rfl rfl ?_
    have c59 := (((((P45_8.keep K46 nin0).keep K49 nin0).keep K51 nin0).keep K54 nin0).keep K58 nin0)
    have c60 := (c57.keep K58)
    refine o_virtual W58 (y := (⟨"com/example/sluicegate/sluicegate/job/MetricReport", "timestamp", "()J"⟩ : MethodName)) (z := (⟨"com/example/sluicegate/sluicegate/job/MetricReport", "timestamp", "()J"⟩ : MethodName)) (w85 hw) (w86 hw) (o_nf W58 rfl (w88 hw)) (w88 hw) (w87 hw) (by decide) c60 (argsL := []) (CtrN.back (Wd := 0) W58 (rm11 l Z a0 hw r1_45 p3 h58 W58.old c59) (w89 hw) (w32 hw) (by decide) (by decide)) (by rw [hml]; rfl) (lenOf pd7 rfl) (S := []) rfl (by exact Nat.le_of_eq rfl) (pc' := 135) (hb hy at_132) rfl (cells' := 5) (slots' := 20) rfl rfl (by decide) (by decide) (wy := []) (fun _ _ _ q => ⟨q.1, q.2.1⟩) all0 (fun _ K => IW.keep K sf0 W58.inv) ?_
    intro v61 T61 h61 lo61 W61 K61 q61
    obtain rfl := q61.2.2
    show Gl _ _ _ _ _ _ _ _ [(.long p3)]
    refine o_lload W61 (pc' := 137) (hb hy at_135) rfl rfl ?_
    refine o_lcmp W61 (v := 0) (pc' := 138) (hb hy at_137) (own_lcs _) rfl ?_
    refine o_ifN W61 (pc' := 141) (hb hy at_138) (XT.i0_ne_f (by decide)) rfl ?_
    refine o_aload W61 (pc' := 143) (hb hy at_141) rfl rfl rfl ?_
    have c62 := ((((((P45_7.keep K46 nin0).keep K49 nin0).keep K51 nin0).keep K54 nin0).keep K58 nin0).keep K61 nin0)
    have c63 := (c60.keep K61)
    refine o_virtual W61 (y := (⟨"com/example/sluicegate/sluicegate/job/MetricReport", "tags", "()Ljava/util/Map;"⟩ : MethodName)) (z := (⟨"com/example/sluicegate/sluicegate/job/MetricReport", "tags", "()Ljava/util/Map;"⟩ : MethodName)) (w90 hw) (w91 hw) (o_nf W61 rfl (w93 hw)) (w93 hw) (w92 hw) (by decide) c63 (argsL := []) (CtrN.back (Wd := 0) W61 (rm12 l Z a0 hw r1_45 h61 W61.old c62) (w94 hw) (w32 hw) (by decide) (by decide)) (by rw [hml]; rfl) (lenOf pd8 rfl) (S := []) rfl (by exact Nat.le_of_eq rfl) (pc' := 146) (hb hy at_143) rfl (cells' := 5) (slots' := 20) rfl rfl (by decide) (by decide) (wy := []) (fun _ _ _ q => ⟨q.1, q.2.1⟩) all0 (fun _ K => IW.keep K sf0 W61.inv) ?_
    intro v64 T64 h64 lo64 W64 K64 q64
    obtain rfl := q64.2.2
    show Gl _ _ _ _ _ _ _ _ [.null]
    refine o_ifnonnullN W64 (pc' := 149) (hb hy at_146) rfl ?_
    refine o_aload W64 (pc' := 151) (hb hy at_149) rfl rfl rfl ?_
    have c65 := (((((((P45_5.keep K46 nin0).keep K49 nin0).keep K51 nin0).keep K54 nin0).keep K58 nin0).keep K61 nin0).keep K64 nin0)
    have c66 := (c63.keep K64)
    refine o_virtual W64 (y := (⟨"com/example/sluicegate/sluicegate/job/MetricReport", "mean", "()Ljava/time/Duration;"⟩ : MethodName)) (z := (⟨"com/example/sluicegate/sluicegate/job/MetricReport", "mean", "()Ljava/time/Duration;"⟩ : MethodName)) (w95 hw) (w96 hw) (o_nf W64 rfl (w98 hw)) (w98 hw) (w97 hw) (by decide) c66 (argsL := []) (CtrN.back (Wd := 0) W64 (rm13 l Z a0 hw gZ r1_45 h64 W64.old c65) (w99 hw) (w32 hw) (by decide) (by decide)) (by rw [hml]; rfl) (lenOf pd9 rfl) (S := []) rfl (by exact Nat.le_of_eq rfl) (pc' := 154) (hb hy at_151) rfl (cells' := 5) (slots' := 20) rfl rfl (by decide) (by decide) (wy := []) (fun _ _ _ q => ⟨q.1, q.2.1⟩) all0 (fun _ K => IW.keep K sf0 W64.inv) ?_
    intro v67 T67 h67 lo67 W67 K67 q67
    obtain rfl := q67.2.2
    show Gl _ _ _ _ _ _ _ _ [(.ref gZ)]
    refine o_aload W67 (pc' := 156) (hb hy at_154) rfl rfl rfl ?_
    have c68 := (((((((P46_5.keep K49 nin0).keep K51 nin0).keep K54 nin0).keep K58 nin0).keep K61 nin0).keep K64 nin0).keep K67 nin0)
    have c69 := (((((((P46_1.keep K49).keep K51).keep K54).keep K58).keep K61).keep K64).keep K67)
    refine o_virtual W67 (y := (⟨"com/example/sluicegate/sluicegate/job/MetricReport", "mean", "()Ljava/time/Duration;"⟩ : MethodName)) (z := (⟨"com/example/sluicegate/sluicegate/job/MetricReport", "mean", "()Ljava/time/Duration;"⟩ : MethodName)) (w95 hw) (w96 hw) (o_nf W67 rfl (w98 hw)) (w98 hw) (w97 hw) (by decide) c69 (argsL := []) (CtrN.back (Wd := 1) W67 (rm13 l Z a0 hw gZ r1_46 h67 W67.old c68) (w99 hw) (w32 hw) (by decide) (by decide)) (by rw [hml]; rfl) (lenOf pd9 rfl) (S := [(.ref gZ)]) rfl (by exact Nat.le_of_eq rfl) (pc' := 159) (hb hy at_156) rfl (cells' := 5) (slots' := 20) rfl rfl (by decide) (by decide) (wy := []) (fun _ _ _ q => ⟨q.1, q.2.1⟩) all0 (fun _ K => IW.keep K sf0 W67.inv) ?_
    intro v70 T70 h70 lo70 W70 K70 q70
    obtain rfl := q70.2.2
    show Gl _ _ _ _ _ _ _ _ [(.ref gZ), (.ref gZ)]
    refine o_acmpN W70 (pc' := 162) (hb hy at_159) rfl rfl (XT.aa_ne_f rfl) rfl ?_
    refine o_aload W70 (pc' := 164) (hb hy at_162) rfl rfl rfl ?_
    have c71 := (((((((((P45_6.keep K46 nin0).keep K49 nin0).keep K51 nin0).keep K54 nin0).keep K58 nin0).keep K61 nin0).keep K64 nin0).keep K67 nin0).keep K70 nin0)
    have c72 := ((c66.keep K67).keep K70)
    refine o_virtual W70 (y := (⟨"com/example/sluicegate/sluicegate/job/MetricReport", "max", "()Ljava/time/Duration;"⟩ : MethodName)) (z := (⟨"com/example/sluicegate/sluicegate/job/MetricReport", "max", "()Ljava/time/Duration;"⟩ : MethodName)) (w100 hw) (w101 hw) (o_nf W70 rfl (w103 hw)) (w103 hw) (w102 hw) (by decide) c72 (argsL := []) (CtrN.back (Wd := 0) W70 (rm14 l Z a0 hw gZ r1_45 h70 W70.old c71) (w104 hw) (w32 hw) (by decide) (by decide)) (by rw [hml]; rfl) (lenOf pd9 rfl) (S := []) rfl (by exact Nat.le_of_eq rfl) (pc' := 167) (hb hy at_164) rfl (cells' := 5) (slots' := 20) rfl rfl (by decide) (by decide) (wy := []) (fun _ _ _ q => ⟨q.1, q.2.1⟩) all0 (fun _ K => IW.keep K sf0 W70.inv) ?_
    intro v73 T73 h73 lo73 W73 K73 q73
    obtain rfl := q73.2.2
    show Gl _ _ _ _ _ _ _ _ [(.ref gZ)]
    refine o_aload W73 (pc' := 169) (hb hy at_167) rfl rfl rfl ?_
    have c74 := (((((((((P46_6.keep K49 nin0).keep K51 nin0).keep K54 nin0).keep K58 nin0).keep K61 nin0).keep K64 nin0).keep K67 nin0).keep K70 nin0).keep K73 nin0)
    have c75 := ((c69.keep K70).keep K73)
    refine o_virtual W73 (y := (⟨"com/example/sluicegate/sluicegate/job/MetricReport", "max", "()Ljava/time/Duration;"⟩ : MethodName)) (z := (⟨"com/example/sluicegate/sluicegate/job/MetricReport", "max", "()Ljava/time/Duration;"⟩ : MethodName)) (w100 hw) (w101 hw) (o_nf W73 rfl (w103 hw)) (w103 hw) (w102 hw) (by decide) c75 (argsL := []) (CtrN.back (Wd := 1) W73 (rm14 l Z a0 hw gZ r1_46 h73 W73.old c74) (w104 hw) (w32 hw) (by decide) (by decide)) (by rw [hml]; rfl) (lenOf pd9 rfl) (S := [(.ref gZ)]) rfl (by exact Nat.le_of_eq rfl) (pc' := 172) (hb hy at_169) rfl (cells' := 5) (slots' := 20) rfl rfl (by decide) (by decide) (wy := []) (fun _ _ _ q => ⟨q.1, q.2.1⟩) all0 (fun _ K => IW.keep K sf0 W73.inv) ?_
    intro v76 T76 h76 lo76 W76 K76 q76
    obtain rfl := q76.2.2
    show Gl _ _ _ _ _ _ _ _ [(.ref gZ), (.ref gZ)]
    refine o_acmpN W76 (pc' := 175) (hb hy at_172) rfl rfl (XT.aa_ne_f rfl) rfl ?_
    refine o_iconst W76 (v := 1) (pc' := 176) (hb hy at_175) rfl rfl ?_
    refine o_goto W76 (pc' := 180) (hb hy at_176) (by decide) rfl ?_
    exact o_retNW W76 (own_EL hw) hlk (t := .boolean) hret (by simp) (z' := (1 : Int32)) (by decide) (hb hy at_180) (by decide) (by decide) rfl
  · refine o_iand W0 (v := 2) (pc' := 3) (hb hy at_2) ek1 rfl ?_
    refine o_istore W0 (L' := #[.val (.int p0), .val (.int p1), .val (.long p2), .second, .val (.long p3), .second, .val (.int 2), .unset, .unset, .unset, .unset]) (pc' := 5) (hb hy at_3) rfl rfl ?_
    refine o_iload W0 (pc' := 7) (hb hy at_5) rfl rfl ?_
    refine o_newP W0 (aty := .char) (w0 hw) (fun _ E => IW.ext E W0.inv) (by decide) (cap := 2) (by decide) (by decide) (pc' := 9) (hb hy at_7) rfl (cells' := 1) (slots' := 2) rfl rfl (by decide) (by decide) (vs := [(.int 0), (.int 0)]) (dv := (.int 0)) rfl rfl ?_
    intro b77 T77 h77 k77 W77 E77 ge77 gz77 gb77 V77
    refine o_astore W77 (L' := #[.val (.int p0), .val (.int p1), .val (.long p2), .second, .val (.long p3), .second, .val (.int 2), .val (.ref b77), .unset, .unset, .unset]) (pc' := 11) (hb hy at_9) rfl rfl rfl ?_
    refine o_iload W77 (pc' := 13) (hb hy at_11) rfl rfl ?_
    refine o_ifN W77 (pc' := 16) (hb hy at_13) (XT.i0_le_f (by decide)) rfl ?_
    refine o_aload W77 (pc' := 18) (hb hy at_16) rfl rfl rfl ?_
    refine o_iconst W77 (v := 0) (pc' := 19) (hb hy at_18) rfl rfl ?_
    refine o_iloadN W77 (pc' := 20) (hb hy at_19) rfl rfl ?_
    refine o_sipush W77 (v := 255) (pc' := 23) (hb hy at_20) (by decide) rfl ?_
    refine o_iand W77 (v := (p0 &&& (255 : Int32))) (pc' := 24) (hb hy at_23) rfl rfl ?_
    refine o_i2c W77 (v := (p0 &&& (255 : Int32))) (pc' := 25) (hb hy at_24) (own_i2c (own_b255 _)) rfl ?_
    refine o_stC W77 V77 (i := 0) (x' := (p0 &&& (255 : Int32))) (by decide) (by decide) (by decide) (Nat.lt_of_sub_eq_succ rfl) (own_i2c (own_b255 _)) (vs' := [(.int (p0 &&& (255 : Int32))), (.int 0)]) rfl gz77 (Or.inr gb77) (fun _ R => IW.wr R (Safe.arv W77.al V77 (by decide)) W77.inv) (pc' := 26) (hb hy at_25) rfl ?_
    intro T78 h78 lo78 W78 R78 V78
    refine o_iload W78 (pc' := 28) (hb hy at_26) rfl rfl ?_
    refine o_iconst W78 (v := 1) (pc' := 29) (hb hy at_28) rfl rfl ?_
    refine o_icmpN W78 (pc' := 32) (hb hy at_29) (XT.ii_le_f (by decide)) rfl ?_
    refine o_aload W78 (pc' := 34) (hb hy at_32) rfl rfl rfl ?_
    refine o_iconst W78 (v := 1) (pc' := 35) (hb hy at_34) rfl rfl ?_
    refine o_iloadN W78 (pc' := 36) (hb hy at_35) rfl rfl ?_
    refine o_bipush W78 (v := 8) (pc' := 38) (hb hy at_36) (by decide) rfl ?_
    refine o_iushr W78 (v := ((p0.toUInt32 >>> ((8 : Int32) &&& 31).toUInt32).toInt32)) (pc' := 39) (hb hy at_38) rfl rfl ?_
    refine o_sipush W78 (v := 255) (pc' := 42) (hb hy at_39) (by decide) rfl ?_
    refine o_iand W78 (v := (((p0.toUInt32 >>> ((8 : Int32) &&& 31).toUInt32).toInt32) &&& (255 : Int32))) (pc' := 43) (hb hy at_42) rfl rfl ?_
    refine o_i2c W78 (v := (((p0.toUInt32 >>> ((8 : Int32) &&& 31).toUInt32).toInt32) &&& (255 : Int32))) (pc' := 44) (hb hy at_43) (own_i2c (own_b255 _)) rfl ?_
    refine o_stC W78 V78 (i := 1) (x' := (((p0.toUInt32 >>> ((8 : Int32) &&& 31).toUInt32).toInt32) &&& (255 : Int32))) (by decide) (by decide) (by decide) (Nat.lt_of_sub_eq_succ rfl) (own_i2c (own_b255 _)) (vs' := [(.int (p0 &&& (255 : Int32))), (.int (((p0.toUInt32 >>> ((8 : Int32) &&& 31).toUInt32).toInt32) &&& (255 : Int32)))]) rfl gz77 (Or.inr gb77) (fun _ R => IW.wr R (Safe.arv W78.al V78 (by decide)) W78.inv) (pc' := 45) (hb hy at_44) rfl ?_
    intro T79 h79 lo79 W79 R79 V79
    refine o_iload W79 (pc' := 47) (hb hy at_45) rfl rfl ?_
    refine o_iconst W79 (v := 2) (pc' := 48) (hb hy at_47) rfl rfl ?_
    refine o_icmpY W79 (pc' := 64) (hb hy at_48) (XT.ii_le_t (by decide)) (by decide) rfl ?_
    refine o_new W79 (w1 hw) (w2 hw) (w3 hw) (fun _ E => IW.ext E W79.inv) (pc' := 67) (hb hy at_64) rfl (cells' := 2) (slots' := 6) rfl rfl (by decide) (by decide) ?_
    intro b80 T80 h80 W80 E80 ge80 gz80 gb80 A80 D80
    have Fb80_coder : Fld Z h80 b80 "java/lang/String" "coder" "B" (.int 0) := D80 (Or.inr (w27 hw)) (ty := .byte) (by decide)
    have Fb80_value : Fld Z h80 b80 "java/lang/String" "value" "[B" .null := D80 (Or.inr (w29 hw)) (ty := (.array .byte)) (by decide)
    refine o_dup W80 (pc' := 68) (hb hy at_67) rfl rfl ?_
    refine o_aload W80 (pc' := 70) (hb hy at_68) rfl rfl rfl ?_
    have c81 := (V79.ext E80)
    have ok82 : own_ok [(p0 &&& (255 : Int32)), (((p0.toUInt32 >>> ((8 : Int32) &&& 31).toUInt32).toInt32) &&& (255 : Int32))] := ⟨by simp only [List.mem_cons, List.not_mem_nil, or_false, forall_eq_or_imp, forall_eq, false_imp_iff, implies_true]; exact ⟨(own_b255 _), (own_b255 _)⟩, Nat.le_of_ble_eq_true rfl⟩
    have sf83 := own_safeS (EL := consts_1) W80.al A80 Fb80_value
    refine o_special W80 (y := (⟨"java/lang/String", "<init>", "([C)V"⟩ : MethodName)) rfl (w4 hw) (w5 hw) (w6 hw) (by decide) (a := b80) (argsL := [(.ref b77)]) (StrChars.Road.backV (W := 1) W80.2.2.2.1 (own_hV hw) (kI := 4) (w2 hw) (cs := [(p0 &&& (255 : Int32)), (((p0.toUInt32 >>> ((8 : Int32) &&& 31).toUInt32).toInt32) &&& (255 : Int32))]) (bs := [((p0 &&& (255 : Int32))).toInt8.toInt32, ((((p0.toUInt32 >>> ((8 : Int32) &&& 31).toUInt32).toInt32) &&& (255 : Int32))).toInt8.toInt32]) (n := 2) (n0 := Z.heap.size) gz80 W80.zs A80 Fb80_value Fb80_coder c81 (SgCS.ext W80.ox) NgCS rfl rfl (by decide) (by decide) ok82.1 rfl (by decide) (by decide)) (by rw [hml]; rfl) (lenOf pd1 rfl) (S := [(.ref b80)]) rfl (by exact Nat.le_of_eq rfl) (pc' := 73) (hb hy at_70) rfl (cells' := 3) (slots' := 8) rfl rfl (by decide) (by decide) (wy := [b80]) (fun _ _ _ q => ⟨q.2.1, q.2.2.1⟩) (allS ⟨gz80, (Or.inr gb80)⟩ all0) (fun _ K => IW.keep K (sfS sf83 sf0) W80.inv) ?_
    intro v84 T84 h84 lo84 W84 K84 q84
    obtain ⟨rfl, -, -, X84, Fc84, t84, kb84, gz84, ge84, -, Fv84, A84⟩ := q84
    have B84 : Arv Z h84 t84 kb84 .byte (2 : Int32) [(.int (StrChars.lo8 (p0 &&& (255 : Int32)))), (.int (StrChars.lo8 (((p0.toUInt32 >>> ((8 : Int32) &&& 31).toUInt32).toInt32) &&& (255 : Int32))))] (.int 0) := A84
    show Gl _ _ _ _ _ _ _ _ [(.ref b80)]
    refine o_astore W84 (L' := #[.val (.int p0), .val (.int p1), .val (.long p2), .second, .val (.long p3), .second, .val (.int 2), .val (.ref b77), .val (.ref b80), .unset, .unset]) (pc' := 75) (hb hy at_73) rfl rfl rfl ?_
    refine o_aload W84 (pc' := 77) (hb hy at_75) rfl rfl rfl ?_
    refine o_lloadN W84 (pc' := 78) (hb hy at_77) rfl rfl ?_
    refine o_aconstNull W84 (pc' := 79) (hb hy at_78) rfl ?_
    refine o_lload W84 (pc' := 81) (hb hy at_79) rfl rfl ?_
    refine o_static W84 (y := (⟨"com/example/sluicegate/sluicegate/job/MetricReport", "meter", "(Ljava/lang/String;JLjava/util/Map;J)Lcom/example/sluicegate/sluicegate/job/MetricReport;"⟩ : MethodName)) (w30 hw) (w31 hw) (w32 hw) (w33 hw) (by decide) (argsL := [(.ref b80), (.long p2), .null, (.long p3)]) (CtrN.back (Wd := 0) W84 (rm4 l Z a0 hw gM gZ b80 p2 p3 h84 W84.old SgM SgZ) (w33 hw) (w32 hw) (by decide) (by decide)) (by rw [hml]; rfl) (lenOf pd3 rfl) (S := []) rfl (by exact Nat.le_of_eq rfl) (pc' := 84) (hb hy at_81) rfl (cells' := 4) (slots' := 15) rfl rfl (by decide) (by decide) (wy := []) (fun _ _ _ q => ⟨q.1, q.2.1⟩) all0 (fun _ K => IW.keep K sf0 W84.inv) ?_
    intro v85 T85 h85 lo85 W85 K85 q85
    obtain ⟨r1_85, P85_0, P85_1, P85_2, P85_3, P85_4, P85_5, P85_6, P85_7, P85_8, rfl⟩ := q85.2.2
    show Gl _ _ _ _ _ _ _ _ [(.ref r1_85)]
    refine o_astore W85 (L' := #[.val (.int p0), .val (.int p1), .val (.long p2), .second, .val (.long p3), .second, .val (.int 2), .val (.ref b77), .val (.ref b80), .val (.ref r1_85), .unset]) (pc' := 86) (hb hy at_84) rfl rfl rfl ?_
    refine o_aload W85 (pc' := 88) (hb hy at_86) rfl rfl rfl ?_
    refine o_lconst W85 (v := (0 : Int64)) (pc' := 89) (hb hy at_88) (by decide) rfl ?_
    refine o_aconstNull W85 (pc' := 90) (hb hy at_89) rfl ?_
    refine o_lconst W85 (v := (0 : Int64)) (pc' := 91) (hb hy at_90) (by decide) rfl ?_
    refine o_static W85 (y := (⟨"com/example/sluicegate/sluicegate/job/MetricReport", "counter", "(Ljava/lang/String;JLjava/util/Map;J)Lcom/example/sluicegate/sluicegate/job/MetricReport;"⟩ : MethodName)) (w59 hw) (w60 hw) (w32 hw) (w61 hw) (by decide) (argsL := [(.ref b80), (.long (0 : Int64)), .null, (.long (0 : Int64))]) (CtrN.back (Wd := 0) W85 (rm6 l Z a0 hw gC gZ b80 h85 W85.old SgC SgZ) (w61 hw) (w32 hw) (by decide) (by decide)) (by rw [hml]; rfl) (lenOf pd3 rfl) (S := []) rfl (by exact Nat.le_of_eq rfl) (pc' := 94) (hb hy at_91) rfl (cells' := 5) (slots' := 22) rfl rfl (by decide) (by decide) (wy := []) (fun _ _ _ q => ⟨q.1, q.2.1⟩) all0 (fun _ K => IW.keep K sf0 W85.inv) ?_
    intro v86 T86 h86 lo86 W86 K86 q86
    obtain ⟨r1_86, P86_0, P86_1, P86_2, P86_3, P86_4, P86_5, P86_6, P86_7, P86_8, rfl⟩ := q86.2.2
    show Gl _ _ _ _ _ _ _ _ [(.ref r1_86)]
    refine o_astore W86 (L' := #[.val (.int p0), .val (.int p1), .val (.long p2), .second, .val (.long p3), .second, .val (.int 2), .val (.ref b77), .val (.ref b80), .val (.ref r1_85), .val (.ref r1_86)]) (pc' := 96) (hb hy at_94) rfl rfl rfl ?_
    refine o_aload W86 (pc' := 98) (hb hy at_96) rfl rfl rfl ?_
    refine o_aload W86 (pc' := 100) (hb hy at_98) rfl rfl rfl ?_
    have c87 := (P85_2.keep K86 nin0)
    have c88 := (P85_1.keep K86)
    refine o_virtual W86 (y := (⟨"com/example/sluicegate/sluicegate/job/MetricReport", "name", "()Ljava/lang/String;"⟩ : MethodName)) (z := (⟨"com/example/sluicegate/sluicegate/job/MetricReport", "name", "()Ljava/lang/String;"⟩ : MethodName)) (w64 hw) (w65 hw) (o_nf W86 rfl (w67 hw)) (w67 hw) (w66 hw) (by decide) c88 (argsL := []) (CtrN.back (Wd := 1) W86 (rm7 l Z a0 hw r1_85 b80 h86 W86.old c87) (w68 hw) (w32 hw) (by decide) (by decide)) (by rw [hml]; rfl) (lenOf pd4 rfl) (S := [(.ref b80)]) rfl (by exact Nat.le_of_eq rfl) (pc' := 103) (hb hy at_100) rfl (cells' := 5) (slots' := 22) rfl rfl (by decide) (by decide) (wy := []) (fun _ _ _ q => ⟨q.1, q.2.1⟩) all0 (fun _ K => IW.keep K sf0 W86.inv) ?_
    intro v89 T89 h89 lo89 W89 K89 q89
    obtain rfl := q89.2.2
    show Gl _ _ _ _ _ _ _ _ [(.ref b80), (.ref b80)]
    have c90 := (((X84.keep K85).keep K86).keep K89)
    refine o_virtual W89 (y := (⟨"java/lang/String", "equals", "(Ljava/lang/Object;)Z"⟩ : MethodName)) (z := (⟨"java/lang/String", "equals", "(Ljava/lang/Object;)Z"⟩ : MethodName)) (w69 hw) (w70 hw) (o_nf W89 rfl (w72 hw)) (w72 hw) (w71 hw) (by decide) c90 (argsL := [(.ref b80)]) (CtrN.back (Wd := 0) W89 (rm8 l Z a0 hw b80 h89 W89.old ) (w73 hw) (w3 hw) (by decide) (by decide)) (by rw [hml]; rfl) (lenOf pd5 rfl) (S := []) rfl (by exact Nat.le_of_eq rfl) (pc' := 106) (hb hy at_103) rfl (cells' := 5) (slots' := 22) rfl rfl (by decide) (by decide) (wy := []) (fun _ _ _ q => ⟨q.1, q.2.1⟩) all0 (fun _ K => IW.keep K sf0 W89.inv) ?_
    intro v91 T91 h91 lo91 W91 K91 q91
    obtain rfl := q91.2.2
    show Gl _ _ _ _ _ _ _ _ [(.int 1)]
    refine o_ifN W91 (pc' := 109) (hb hy at_106) (XT.i0_eq_f (by decide)) rfl ?_
    refine o_aload W91 (pc' := 111) (hb hy at_109) rfl rfl rfl ?_
    have c92 := (((P85_3.keep K86 nin0).keep K89 nin0).keep K91 nin0)
    have c93 := ((c88.keep K89).keep K91)
    refine o_virtual W91 (y := (⟨"com/example/sluicegate/sluicegate/job/MetricReport", "type", "()Lcom/example/sluicegate/sluicegate/job/MetricReport$Type;"⟩ : MethodName)) (z := (⟨"com/example/sluicegate/sluicegate/job/MetricReport", "type", "()Lcom/example/sluicegate/sluicegate/job/MetricReport$Type;"⟩ : MethodName)) (w74 hw) (w75 hw) (o_nf W91 rfl (w77 hw)) (w77 hw) (w76 hw) (by decide) c93 (argsL := []) (CtrN.back (Wd := 0) W91 (rm9 l Z a0 hw gM r1_85 h91 W91.old c92) (w78 hw) (w32 hw) (by decide) (by decide)) (by rw [hml]; rfl) (lenOf pd6 rfl) (S := []) rfl (by exact Nat.le_of_eq rfl) (pc' := 114) (hb hy at_111) rfl (cells' := 5) (slots' := 22) rfl rfl (by decide) (by decide) (wy := []) (fun _ _ _ q => ⟨q.1, q.2.1⟩) all0 (fun _ K => IW.keep K sf0 W91.inv) ?_
    intro v94 T94 h94 lo94 W94 K94 q94
    obtain rfl := q94.2.2
    show Gl _ _ _ _ _ _ _ _ [(.ref gM)]
    refine o_getS W94 (w79 hw) Via.refl (SgM.ext W94.ox) (pc' := 117) (hb hy at_114) rfl ?_
    intro T95 W95
    refine o_acmpN W95 (pc' := 120) (hb hy at_117) rfl rfl (XT.aa_ne_f rfl) rfl ?_
    refine o_aload W95 (pc' := 122) (hb hy at_120) rfl rfl rfl ?_
    have c96 := ((((P85_4.keep K86 nin0).keep K89 nin0).keep K91 nin0).keep K94 nin0)
    have c97 := (c93.keep K94)
    refine o_virtual W95 (y := (⟨"com/example/sluicegate/sluicegate/job/MetricReport", "count", "()J"⟩ : MethodName)) (z := (⟨"com/example/sluicegate/sluicegate/job/MetricReport", "count", "()J"⟩ : MethodName)) (w80 hw) (w81 hw) (o_nf W95 rfl (w83 hw)) (w83 hw) (w82 hw) (by decide) c97 (argsL := []) (CtrN.back (Wd := 0) W95 (rm10 l Z a0 hw r1_85 p2 h94 W95.old c96) (w84 hw) (w32 hw) (by decide) (by decide)) (by rw [hml]; rfl) (lenOf pd7 rfl) (S := []) rfl (by exact Nat.le_of_eq rfl) (pc' := 125) (hb hy at_122) rfl (cells' := 5) (slots' := 22) rfl rfl (by decide) (by decide) (wy := []) (fun _ _ _ q => ⟨q.1, q.2.1⟩) all0 (fun _ K => IW.keep K sf0 W95.inv) ?_
    intro v98 T98 h98 lo98 W98 K98 q98
    obtain rfl := q98.2.2
    show Gl _ _ _ _ _ _ _ _ [(.long p2)]
    refine o_lloadN W98 (pc' := 126) (hb hy at_125) rfl rfl ?_
    refine o_lcmp W98 (v := 0) (pc' := 127) (hb hy at_126) (own_lcs _) rfl ?_
    refine o_ifN W98 (pc' := 130) (hb hy at_127) (XT.i0_ne_f (by decide)) rfl ?_
    refine o_aload W98 (pc' := 132) (hb hy at_130) rfl rfl rfl ?_
    have c99 := (((((P85_8.keep K86 nin0).keep K89 nin0).keep K91 nin0).keep K94 nin0).keep K98 nin0)
    have c100 := (c97.keep K98)
    refine o_virtual W98 (y := (⟨"com/example/sluicegate/sluicegate/job/MetricReport", "timestamp", "()J"⟩ : MethodName)) (z := (⟨"com/example/sluicegate/sluicegate/job/MetricReport", "timestamp", "()J"⟩ : MethodName)) (w85 hw) (w86 hw) (o_nf W98 rfl (w88 hw)) (w88 hw) (w87 hw) (by decide) c100 (argsL := []) (CtrN.back (Wd := 0) W98 (rm11 l Z a0 hw r1_85 p3 h98 W98.old c99) (w89 hw) (w32 hw) (by decide) (by decide)) (by rw [hml]; rfl) (lenOf pd7 rfl) (S := []) rfl (by exact Nat.le_of_eq rfl) (pc' := 135) (hb hy at_132) rfl (cells' := 5) (slots' := 22) rfl rfl (by decide) (by decide) (wy := []) (fun _ _ _ q => ⟨q.1, q.2.1⟩) all0 (fun _ K => IW.keep K sf0 W98.inv) ?_
    intro v101 T101 h101 lo101 W101 K101 q101
    obtain rfl := q101.2.2
    show Gl _ _ _ _ _ _ _ _ [(.long p3)]
    refine o_lload W101 (pc' := 137) (hb hy at_135) rfl rfl ?_
    refine o_lcmp W101 (v := 0) (pc' := 138) (hb hy at_137) (own_lcs _) rfl ?_
    refine o_ifN W101 (pc' := 141) (hb hy at_138) (XT.i0_ne_f (by decide)) rfl ?_
    refine o_aload W101 (pc' := 143) (hb hy at_141) rfl rfl rfl ?_
    have c102 := ((((((P85_7.keep K86 nin0).keep K89 nin0).keep K91 nin0).keep K94 nin0).keep K98 nin0).keep K101 nin0)
    have c103 := (c100.keep K101)
    refine o_virtual W101 (y := (⟨"com/example/sluicegate/sluicegate/job/MetricReport", "tags", "()Ljava/util/Map;"⟩ : MethodName)) (z := (⟨"com/example/sluicegate/sluicegate/job/MetricReport", "tags", "()Ljava/util/Map;"⟩ : MethodName)) (w90 hw) (w91 hw) (o_nf W101 rfl (w93 hw)) (w93 hw) (w92 hw) (by decide) c103 (argsL := []) (CtrN.back (Wd := 0) W101 (rm12 l Z a0 hw r1_85 h101 W101.old c102) (w94 hw) (w32 hw) (by decide) (by decide)) (by rw [hml]; rfl) (lenOf pd8 rfl) (S := []) rfl (by exact Nat.le_of_eq rfl) (pc' := 146) (hb hy at_143) rfl (cells' := 5) (slots' := 22) rfl rfl (by decide) (by decide) (wy := []) (fun _ _ _ q => ⟨q.1, q.2.1⟩) all0 (fun _ K => IW.keep K sf0 W101.inv) ?_
    intro v104 T104 h104 lo104 W104 K104 q104
    obtain rfl := q104.2.2
    show Gl _ _ _ _ _ _ _ _ [.null]
    refine o_ifnonnullN W104 (pc' := 149) (hb hy at_146) rfl ?_
    refine o_aload W104 (pc' := 151) (hb hy at_149) rfl rfl rfl ?_
    have c105 := (((((((P85_5.keep K86 nin0).keep K89 nin0).keep K91 nin0).keep K94 nin0).keep K98 nin0).keep K101 nin0).keep K104 nin0)
    have c106 := (c103.keep K104)
    refine o_virtual W104 (y := (⟨"com/example/sluicegate/sluicegate/job/MetricReport", "mean", "()Ljava/time/Duration;"⟩ : MethodName)) (z := (⟨"com/example/sluicegate/sluicegate/job/MetricReport", "mean", "()Ljava/time/Duration;"⟩ : MethodName)) (w95 hw) (w96 hw) (o_nf W104 rfl (w98 hw)) (w98 hw) (w97 hw) (by decide) c106 (argsL := []) (CtrN.back (Wd := 0) W104 (rm13 l Z a0 hw gZ r1_85 h104 W104.old c105) (w99 hw) (w32 hw) (by decide) (by decide)) (by rw [hml]; rfl) (lenOf pd9 rfl) (S := []) rfl (by exact Nat.le_of_eq rfl) (pc' := 154) (hb hy at_151) rfl (cells' := 5) (slots' := 22) rfl rfl (by decide) (by decide) (wy := []) (fun _ _ _ q => ⟨q.1, q.2.1⟩) all0 (fun _ K => IW.keep K sf0 W104.inv) ?_
    intro v107 T107 h107 lo107 W107 K107 q107
    obtain rfl := q107.2.2
    show Gl _ _ _ _ _ _ _ _ [(.ref gZ)]
    refine o_aload W107 (pc' := 156) (hb hy at_154) rfl rfl rfl ?_
    have c108 := (((((((P86_5.keep K89 nin0).keep K91 nin0).keep K94 nin0).keep K98 nin0).keep K101 nin0).keep K104 nin0).keep K107 nin0)
    have c109 := (((((((P86_1.keep K89).keep K91).keep K94).keep K98).keep K101).keep K104).keep K107)
    refine o_virtual W107 (y := (⟨"com/example/sluicegate/sluicegate/job/MetricReport", "mean", "()Ljava/time/Duration;"⟩ : MethodName)) (z := (⟨"com/example/sluicegate/sluicegate/job/MetricReport", "mean", "()Ljava/time/Duration;"⟩ : MethodName)) (w95 hw) (w96 hw) (o_nf W107 rfl (w98 hw)) (w98 hw) (w97 hw) (by decide) c109 (argsL := []) (CtrN.back (Wd := 1) W107 (rm13 l Z a0 hw gZ r1_86 h107 W107.old c108) (w99 hw) (w32 hw) (by decide) (by decide)) (by rw [hml]; rfl) (lenOf pd9 rfl) (S := [(.ref gZ)]) rfl (by exact Nat.le_of_eq rfl) (pc' := 159) (hb hy at_156) rfl (cells' := 5) (slots' := 22) rfl rfl (by decide) (by decide) (wy := []) (fun _ _ _ q => ⟨q.1, q.2.1⟩) all0 (fun _ K => IW.keep K sf0 W107.inv) ?_
    intro v110 T110 h110 lo110 W110 K110 q110
    obtain rfl := q110.2.2
    show Gl _ _ _ _ _ _ _ _ [(.ref gZ), (.ref gZ)]
    refine o_acmpN W110 (pc' := 162) (hb hy at_159) rfl rfl (XT.aa_ne_f rfl) rfl ?_
    refine o_aload W110 (pc' := 164) (hb hy at_162) rfl rfl rfl ?_
    have c111 := (((((((((P85_6.keep K86 nin0).keep K89 nin0).keep K91 nin0).keep K94 nin0).keep K98 nin0).keep K101 nin0).keep K104 nin0).keep K107 nin0).keep K110 nin0)
    have c112 := ((c106.keep K107).keep K110)
    refine o_virtual W110 (y := (⟨"com/example/sluicegate/sluicegate/job/MetricReport", "max", "()Ljava/time/Duration;"⟩ : MethodName)) (z := (⟨"com/example/sluicegate/sluicegate/job/MetricReport", "max", "()Ljava/time/Duration;"⟩ : MethodName)) (w100 hw) (w101 hw) (o_nf W110 rfl (w103 hw)) (w103 hw) (w102 hw) (by decide) c112 (argsL := []) (CtrN.back (Wd := 0) W110 (rm14 l Z a0 hw gZ r1_85 h110 W110.old c111) (w104 hw) (w32 hw) (by decide) (by decide)) (by rw [hml]; rfl) (lenOf pd9 rfl) (S := []) rfl (by exact Nat.le_of_eq rfl) (pc' := 167) (hb hy at_164) rfl (cells' := 5) (slots' := 22) rfl rfl (by decide) (by decide) (wy := []) (fun _ _ _ q => ⟨q.1, q.2.1⟩) all0 (fun _ K => IW.keep K sf0 W110.inv) ?_
    intro v113 T113 h113 lo113 W113 K113 q113
    obtain rfl := q113.2.2
    show Gl _ _ _ _ _ _ _ _ [(.ref gZ)]
    refine o_aload W113 (pc' := 169) (hb hy at_167) rfl rfl rfl ?_
    have c114 := (((((((((P86_6.keep K89 nin0).keep K91 nin0).keep K94 nin0).keep K98 nin0).keep K101 nin0).keep K104 nin0).keep K107 nin0).keep K110 nin0).keep K113 nin0)
    have c115 := ((c109.keep K110).keep K113)
    refine o_virtual W113 (y := (⟨"com/example/sluicegate/sluicegate/job/MetricReport", "max", "()Ljava/time/Duration;"⟩ : MethodName)) (z := (⟨"com/example/sluicegate/sluicegate/job/MetricReport", "max", "()Ljava/time/Duration;"⟩ : MethodName)) (w100 hw) (w101 hw) (o_nf W113 rfl (w103 hw)) (w103 hw) (w102 hw) (by decide) c115 (argsL := []) (CtrN.back (Wd := 1) W113 (rm14 l Z a0 hw gZ r1_86 h113 W113.old c114) (w104 hw) (w32 hw) (by decide) (by decide)) (by rw [hml]; rfl) (lenOf pd9 rfl) (S := [(.ref gZ)]) rfl (by exact Nat.le_of_eq rfl) (pc' := 172) (hb hy at_169) rfl (cells' := 5) (slots' := 22) rfl rfl (by decide) (by decide) (wy := []) (fun _ _ _ q => ⟨q.1, q.2.1⟩) all0 (fun _ K => IW.keep K sf0 W113.inv) ?_
    intro v116 T116 h116 lo116 W116 K116 q116
    obtain rfl := q116.2.2
    show Gl _ _ _ _ _ _ _ _ [(.ref gZ), (.ref gZ)]
    refine o_acmpN W116 (pc' := 175) (hb hy at_172) rfl rfl (XT.aa_ne_f rfl) rfl ?_
    refine o_iconst W116 (v := 1) (pc' := 176) (hb hy at_175) rfl rfl ?_
    refine o_goto W116 (pc' := 180) (hb hy at_176) (by decide) rfl ?_
    exact o_retNW W116 (own_EL hw) hlk (t := .boolean) hret (by simp) (z' := (1 : Int32)) (by decide) (hb hy at_180) (by decide) (by decide) rfl
  · refine o_iand W0 (v := 3) (pc' := 3) (hb hy at_2) ek1 rfl ?_
    refine o_istore W0 (L' := #[.val (.int p0), .val (.int p1), .val (.long p2), .second, .val (.long p3), .second, .val (.int 3), .unset, .unset, .unset, .unset]) (pc' := 5) (hb hy at_3) rfl rfl ?_
    refine o_iload W0 (pc' := 7) (hb hy at_5) rfl rfl ?_
    refine o_newP W0 (aty := .char) (w0 hw) (fun _ E => IW.ext E W0.inv) (by decide) (cap := 3) (by decide) (by decide) (pc' := 9) (hb hy at_7) rfl (cells' := 1) (slots' := 3) rfl rfl (by decide) (by decide) (vs := [(.int 0), (.int 0), (.int 0)]) (dv := (.int 0)) rfl rfl ?_
    intro b117 T117 h117 k117 W117 E117 ge117 gz117 gb117 V117
    refine o_astore W117 (L' := #[.val (.int p0), .val (.int p1), .val (.long p2), .second, .val (.long p3), .second, .val (.int 3), .val (.ref b117), .unset, .unset, .unset]) (pc' := 11) (hb hy at_9) rfl rfl rfl ?_
    refine o_iload W117 (pc' := 13) (hb hy at_11) rfl rfl ?_
    refine o_ifN W117 (pc' := 16) (hb hy at_13) (XT.i0_le_f (by decide)) rfl ?_
    refine o_aload W117 (pc' := 18) (hb hy at_16) rfl rfl rfl ?_
    refine o_iconst W117 (v := 0) (pc' := 19) (hb hy at_18) rfl rfl ?_
    refine o_iloadN W117 (pc' := 20) (hb hy at_19) rfl rfl ?_
    refine o_sipush W117 (v := 255) (pc' := 23) (hb hy at_20) (by decide) rfl ?_
    refine o_iand W117 (v := (p0 &&& (255 : Int32))) (pc' := 24) (hb hy at_23) rfl rfl ?_
    refine o_i2c W117 (v := (p0 &&& (255 : Int32))) (pc' := 25) (hb hy at_24) (own_i2c (own_b255 _)) rfl ?_
    refine o_stC W117 V117 (i := 0) (x' := (p0 &&& (255 : Int32))) (by decide) (by decide) (by decide) (Nat.lt_of_sub_eq_succ rfl) (own_i2c (own_b255 _)) (vs' := [(.int (p0 &&& (255 : Int32))), (.int 0), (.int 0)]) rfl gz117 (Or.inr gb117) (fun _ R => IW.wr R (Safe.arv W117.al V117 (by decide)) W117.inv) (pc' := 26) (hb hy at_25) rfl ?_
    intro T118 h118 lo118 W118 R118 V118
    refine o_iload W118 (pc' := 28) (hb hy at_26) rfl rfl ?_
    refine o_iconst W118 (v := 1) (pc' := 29) (hb hy at_28) rfl rfl ?_
    refine o_icmpN W118 (pc' := 32) (hb hy at_29) (XT.ii_le_f (by decide)) rfl ?_
    refine o_aload W118 (pc' := 34) (hb hy at_32) rfl rfl rfl ?_
    refine o_iconst W118 (v := 1) (pc' := 35) (hb hy at_34) rfl rfl ?_
    refine o_iloadN W118 (pc' := 36) (hb hy at_35) rfl rfl ?_
    refine o_bipush W118 (v := 8) (pc' := 38) (hb hy at_36) (by decide) rfl ?_
    refine o_iushr W118 (v := ((p0.toUInt32 >>> ((8 : Int32) &&& 31).toUInt32).toInt32)) (pc' := 39) (hb hy at_38) rfl rfl ?_
    refine o_sipush W118 (v := 255) (pc' := 42) (hb hy at_39) (by decide) rfl ?_
    refine o_iand W118 (v := (((p0.toUInt32 >>> ((8 : Int32) &&& 31).toUInt32).toInt32) &&& (255 : Int32))) (pc' := 43) (hb hy at_42) rfl rfl ?_
    refine o_i2c W118 (v := (((p0.toUInt32 >>> ((8 : Int32) &&& 31).toUInt32).toInt32) &&& (255 : Int32))) (pc' := 44) (hb hy at_43) (own_i2c (own_b255 _)) rfl ?_
    refine o_stC W118 V118 (i := 1) (x' := (((p0.toUInt32 >>> ((8 : Int32) &&& 31).toUInt32).toInt32) &&& (255 : Int32))) (by decide) (by decide) (by decide) (Nat.lt_of_sub_eq_succ rfl) (own_i2c (own_b255 _)) (vs' := [(.int (p0 &&& (255 : Int32))), (.int (((p0.toUInt32 >>> ((8 : Int32) &&& 31).toUInt32).toInt32) &&& (255 : Int32))), (.int 0)]) rfl gz117 (Or.inr gb117) (fun _ R => IW.wr R (Safe.arv W118.al V118 (by decide)) W118.inv) (pc' := 45) (hb hy at_44) rfl ?_
    intro T119 h119 lo119 W119 R119 V119
    refine o_iload W119 (pc' := 47) (hb hy at_45) rfl rfl ?_
    refine o_iconst W119 (v := 2) (pc' := 48) (hb hy at_47) rfl rfl ?_
    refine o_icmpN W119 (pc' := 51) (hb hy at_48) (XT.ii_le_f (by decide)) rfl ?_
    refine o_aload W119 (pc' := 53) (hb hy at_51) rfl rfl rfl ?_
    refine o_iconst W119 (v := 2) (pc' := 54) (hb hy at_53) rfl rfl ?_
    refine o_iloadN W119 (pc' := 55) (hb hy at_54) rfl rfl ?_
    refine o_bipush W119 (v := 16) (pc' := 57) (hb hy at_55) (by decide) rfl ?_
    refine o_iushr W119 (v := ((p0.toUInt32 >>> ((16 : Int32) &&& 31).toUInt32).toInt32)) (pc' := 58) (hb hy at_57) rfl rfl ?_
    refine o_sipush W119 (v := 255) (pc' := 61) (hb hy at_58) (by decide) rfl ?_
    refine o_iand W119 (v := (((p0.toUInt32 >>> ((16 : Int32) &&& 31).toUInt32).toInt32) &&& (255 : Int32))) (pc' := 62) (hb hy at_61) rfl rfl ?_
    refine o_i2c W119 (v := (((p0.toUInt32 >>> ((16 : Int32) &&& 31).toUInt32).toInt32) &&& (255 : Int32))) (pc' := 63) (hb hy at_62) (own_i2c (own_b255 _)) rfl ?_
    refine o_stC W119 V119 (i := 2) (x' := (((p0.toUInt32 >>> ((16 : Int32) &&& 31).toUInt32).toInt32) &&& (255 : Int32))) (by decide) (by decide) (by decide) (Nat.lt_of_sub_eq_succ rfl) (own_i2c (own_b255 _)) (vs' := [(.int (p0 &&& (255 : Int32))), (.int (((p0.toUInt32 >>> ((8 : Int32) &&& 31).toUInt32).toInt32) &&& (255 : Int32))), (.int (((p0.toUInt32 >>> ((16 : Int32) &&& 31).toUInt32).toInt32) &&& (255 : Int32)))]) rfl gz117 (Or.inr gb117) (fun _ R => IW.wr R (Safe.arv W119.al V119 (by decide)) W119.inv) (pc' := 64) (hb hy at_63) rfl ?_
    intro T120 h120 lo120 W120 R120 V120
    refine o_new W120 (w1 hw) (w2 hw) (w3 hw) (fun _ E => IW.ext E W120.inv) (pc' := 67) (hb hy at_64) rfl (cells' := 2) (slots' := 7) rfl rfl (by decide) (by decide) ?_
    intro b121 T121 h121 W121 E121 ge121 gz121 gb121 A121 D121
    have Fb121_coder : Fld Z h121 b121 "java/lang/String" "coder" "B" (.int 0) := D121 (Or.inr (w27 hw)) (ty := .byte) (by decide)
    have Fb121_value : Fld Z h121 b121 "java/lang/String" "value" "[B" .null := D121 (Or.inr (w29 hw)) (ty := (.array .byte)) (by decide)
    refine o_dup W121 (pc' := 68) (hb hy at_67) rfl rfl ?_
    refine o_aload W121 (pc' := 70) (hb hy at_68) rfl rfl rfl ?_
    have c122 := (V120.ext E121)
    have ok123 : own_ok [(p0 &&& (255 : Int32)), (((p0.toUInt32 >>> ((8 : Int32) &&& 31).toUInt32).toInt32) &&& (255 : Int32)), (((p0.toUInt32 >>> ((16 : Int32) &&& 31).toUInt32).toInt32) &&& (255 : Int32))] := ⟨by simp only [List.mem_cons, List.not_mem_nil, or_false, forall_eq_or_imp, forall_eq, false_imp_iff, implies_true]; exact ⟨(own_b255 _), (own_b255 _), (own_b255 _)⟩, Nat.le_of_ble_eq_true rfl⟩
    have sf124 := own_safeS (EL := consts_1) W121.al A121 Fb121_value
    refine o_special W121 (y := (⟨"java/lang/String", "<init>", "([C)V"⟩ : MethodName)) rfl (w4 hw) (w5 hw) (w6 hw) (by decide) (a := b121) (argsL := [(.ref b117)]) (StrChars.Road.backV (W := 1) W121.2.2.2.1 (own_hV hw) (kI := 4) (w2 hw) (cs := [(p0 &&& (255 : Int32)), (((p0.toUInt32 >>> ((8 : Int32) &&& 31).toUInt32).toInt32) &&& (255 : Int32)), (((p0.toUInt32 >>> ((16 : Int32) &&& 31).toUInt32).toInt32) &&& (255 : Int32))]) (bs := [((p0 &&& (255 : Int32))).toInt8.toInt32, ((((p0.toUInt32 >>> ((8 : Int32) &&& 31).toUInt32).toInt32) &&& (255 : Int32))).toInt8.toInt32, ((((p0.toUInt32 >>> ((16 : Int32) &&& 31).toUInt32).toInt32) &&& (255 : Int32))).toInt8.toInt32]) (n := 3) (n0 := Z.heap.size) gz121 W121.zs A121 Fb121_value Fb121_coder c122 (SgCS.ext W121.ox) NgCS rfl rfl (by decide) (by decide) ok123.1 rfl (by decide) (by decide)) (by rw [hml]; rfl) (lenOf pd1 rfl) (S := [(.ref b121)]) rfl (by exact Nat.le_of_eq rfl) (pc' := 73) (hb hy at_70) rfl (cells' := 3) (slots' := 10) rfl rfl (by decide) (by decide) (wy := [b121]) (fun _ _ _ q => ⟨q.2.1, q.2.2.1⟩) (allS ⟨gz121, (Or.inr gb121)⟩ all0) (fun _ K => IW.keep K (sfS sf124 sf0) W121.inv) ?_
    intro v125 T125 h125 lo125 W125 K125 q125
    obtain ⟨rfl, -, -, X125, Fc125, t125, kb125, gz125, ge125, -, Fv125, A125⟩ := q125
    have B125 : Arv Z h125 t125 kb125 .byte (3 : Int32) [(.int (StrChars.lo8 (p0 &&& (255 : Int32)))), (.int (StrChars.lo8 (((p0.toUInt32 >>> ((8 : Int32) &&& 31).toUInt32).toInt32) &&& (255 : Int32)))), (.int (StrChars.lo8 (((p0.toUInt32 >>> ((16 : Int32) &&& 31).toUInt32).toInt32) &&& (255 : Int32))))] (.int 0) := A125
    show Gl _ _ _ _ _ _ _ _ [(.ref b121)]
    refine o_astore W125 (L' := #[.val (.int p0), .val (.int p1), .val (.long p2), .second, .val (.long p3), .second, .val (.int 3), .val (.ref b117), .val (.ref b121), .unset, .unset]) (pc' := 75) (hb hy at_73) rfl rfl rfl ?_
    refine o_aload W125 (pc' := 77) (hb hy at_75) rfl rfl rfl ?_
    refine o_lloadN W125 (pc' := 78) (hb hy at_77) rfl rfl ?_
    refine o_aconstNull W125 (pc' := 79) (hb hy at_78) rfl ?_
    refine o_lload W125 (pc' := 81) (hb hy at_79) rfl rfl ?_
    refine o_static W125 (y := (⟨"com/example/sluicegate/sluicegate/job/MetricReport", "meter", "(Ljava/lang/String;JLjava/util/Map;J)Lcom/example/sluicegate/sluicegate/job/MetricReport;"⟩ : MethodName)) (w30 hw) (w31 hw) (w32 hw) (w33 hw) (by decide) (argsL := [(.ref b121), (.long p2), .null, (.long p3)]) (CtrN.back (Wd := 0) W125 (rm4 l Z a0 hw gM gZ b121 p2 p3 h125 W125.old SgM SgZ) (w33 hw) (w32 hw) (by decide) (by decide)) (by rw [hml]; rfl) (lenOf pd3 rfl) (S := []) rfl (by exact Nat.le_of_eq rfl) (pc' := 84) (hb hy at_81) rfl (cells' := 4) (slots' := 17) rfl rfl (by decide) (by decide) (wy := []) (fun _ _ _ q => ⟨q.1, q.2.1⟩) all0 (fun _ K => IW.keep K sf0 W125.inv) ?_
    intro v126 T126 h126 lo126 W126 K126 q126
    obtain ⟨r1_126, P126_0, P126_1, P126_2, P126_3, P126_4, P126_5, P126_6, P126_7, P126_8, rfl⟩ := q126.2.2
    show Gl _ _ _ _ _ _ _ _ [(.ref r1_126)]
    refine o_astore W126 (L' := #[.val (.int p0), .val (.int p1), .val (.long p2), .second, .val (.long p3), .second, .val (.int 3), .val (.ref b117), .val (.ref b121), .val (.ref r1_126), .unset]) (pc' := 86) (hb hy at_84) rfl rfl rfl ?_
    refine o_aload W126 (pc' := 88) (hb hy at_86) rfl rfl rfl ?_
    refine o_lconst W126 (v := (0 : Int64)) (pc' := 89) (hb hy at_88) (by decide) rfl ?_
    refine o_aconstNull W126 (pc' := 90) (hb hy at_89) rfl ?_
    refine o_lconst W126 (v := (0 : Int64)) (pc' := 91) (hb hy at_90) (by decide) rfl ?_
    refine o_static W126 (y := (⟨"com/example/sluicegate/sluicegate/job/MetricReport", "counter", "(Ljava/lang/String;JLjava/util/Map;J)Lcom/example/sluicegate/sluicegate/job/MetricReport;"⟩ : MethodName)) (w59 hw) (w60 hw) (w32 hw) (w61 hw) (by decide) (argsL := [(.ref b121), (.long (0 : Int64)), .null, (.long (0 : Int64))]) (CtrN.back (Wd := 0) W126 (rm6 l Z a0 hw gC gZ b121 h126 W126.old SgC SgZ) (w61 hw) (w32 hw) (by decide) (by decide)) (by rw [hml]; rfl) (lenOf pd3 rfl) (S := []) rfl (by exact Nat.le_of_eq rfl) (pc' := 94) (hb hy at_91) rfl (cells' := 5) (slots' := 24) rfl rfl (by decide) (by decide) (wy := []) (fun _ _ _ q => ⟨q.1, q.2.1⟩) all0 (fun _ K => IW.keep K sf0 W126.inv) ?_
    intro v127 T127 h127 lo127 W127 K127 q127
    obtain ⟨r1_127, P127_0, P127_1, P127_2, P127_3, P127_4, P127_5, P127_6, P127_7, P127_8, rfl⟩ := q127.2.2
    show Gl _ _ _ _ _ _ _ _ [(.ref r1_127)]
    refine o_astore W127 (L' := #[.val (.int p0), .val (.int p1), .val (.long p2), .second, .val (.long p3), .second, .val (.int 3), .val (.ref b117), .val (.ref b121), .val (.ref r1_126), .val (.ref r1_127)]) (pc' := 96) (hb hy at_94) rfl rfl rfl ?_
    refine o_aload W127 (pc' := 98) (hb hy at_96) rfl rfl rfl ?_
    refine o_aload W127 (pc' := 100) (hb hy at_98) rfl rfl rfl ?_
    have c128 := (P126_2.keep K127 nin0)
    have c129 := (P126_1.keep K127)
    refine o_virtual W127 (y := (⟨"com/example/sluicegate/sluicegate/job/MetricReport", "name", "()Ljava/lang/String;"⟩ : MethodName)) (z := (⟨"com/example/sluicegate/sluicegate/job/MetricReport", "name", "()Ljava/lang/String;"⟩ : MethodName)) (w64 hw) (w65 hw) (o_nf W127 rfl (w67 hw)) (w67 hw) (w66 hw) (by decide) c129 (argsL := []) (CtrN.back (Wd := 1) W127 (rm7 l Z a0 hw r1_126 b121 h127 W127.old c128) (w68 hw) (w32 hw) (by decide) (by decide)) (by rw [hml]; rfl) (lenOf pd4 rfl) (S := [(.ref b121)]) rfl (by exact Nat.le_of_eq rfl) (pc' := 103) (hb hy at_100) rfl (cells' := 5) (slots' := 24) rfl rfl (by decide) (by decide) (wy := []) (fun _ _ _ q => ⟨q.1, q.2.1⟩) all0 (fun _ K => IW.keep K sf0 W127.inv) ?_
    intro v130 T130 h130 lo130 W130 K130 q130
    obtain rfl := q130.2.2
    show Gl _ _ _ _ _ _ _ _ [(.ref b121), (.ref b121)]
    have c131 := (((X125.keep K126).keep K127).keep K130)
    refine o_virtual W130 (y := (⟨"java/lang/String", "equals", "(Ljava/lang/Object;)Z"⟩ : MethodName)) (z := (⟨"java/lang/String", "equals", "(Ljava/lang/Object;)Z"⟩ : MethodName)) (w69 hw) (w70 hw) (o_nf W130 rfl (w72 hw)) (w72 hw) (w71 hw) (by decide) c131 (argsL := [(.ref b121)]) (CtrN.back (Wd := 0) W130 (rm8 l Z a0 hw b121 h130 W130.old ) (w73 hw) (w3 hw) (by decide) (by decide)) (by rw [hml]; rfl) (lenOf pd5 rfl) (S := []) rfl (by exact Nat.le_of_eq rfl) (pc' := 106) (hb hy at_103) rfl (cells' := 5) (slots' := 24) rfl rfl (by decide) (by decide) (wy := []) (fun _ _ _ q => ⟨q.1, q.2.1⟩) all0 (fun _ K => IW.keep K sf0 W130.inv) ?_
    intro v132 T132 h132 lo132 W132 K132 q132
    obtain rfl := q132.2.2
    show Gl _ _ _ _ _ _ _ _ [(.int 1)]
    refine o_ifN W132 (pc' := 109) (hb hy at_106) (XT.i0_eq_f (by decide)) rfl ?_
    refine o_aload W132 (pc' := 111) (hb hy at_109) rfl rfl rfl ?_
    have c133 := (((P126_3.keep K127 nin0).keep K130 nin0).keep K132 nin0)
    have c134 := ((c129.keep K130).keep K132)
    refine o_virtual W132 (y := (⟨"com/example/sluicegate/sluicegate/job/MetricReport", "type", "()Lcom/example/sluicegate/sluicegate/job/MetricReport$Type;"⟩ : MethodName)) (z := (⟨"com/example/sluicegate/sluicegate/job/MetricReport", "type", "()Lcom/example/sluicegate/sluicegate/job/MetricReport$Type;"⟩ : MethodName)) (w74 hw) (w75 hw) (o_nf W132 rfl (w77 hw)) (w77 hw) (w76 hw) (by decide) c134 (argsL := []) (CtrN.back (Wd := 0) W132 (rm9 l Z a0 hw gM r1_126 h132 W132.old c133) (w78 hw) (w32 hw) (by decide) (by decide)) (by rw [hml]; rfl) (lenOf pd6 rfl) (S := []) rfl (by exact Nat.le_of_eq rfl) (pc' := 114) (hb hy at_111) rfl (cells' := 5) (slots' := 24) rfl rfl (by decide) (by decide) (wy := []) (fun _ _ _ q => ⟨q.1, q.2.1⟩) all0 (fun _ K => IW.keep K sf0 W132.inv) ?_
    intro v135 T135 h135 lo135 W135 K135 q135
    obtain rfl := q135.2.2
    show Gl _ _ _ _ _ _ _ _ [(.ref gM)]
    refine o_getS W135 (w79 hw) Via.refl (SgM.ext W135.ox) (pc' := 117) (hb hy at_114) rfl ?_
    intro T136 W136
    refine o_acmpN W136 (pc' := 120) (hb hy at_117) rfl rfl (XT.aa_ne_f rfl) rfl ?_
    refine o_aload W136 (pc' := 122) (hb hy at_120) rfl rfl rfl ?_
    have c137 := ((((P126_4.keep K127 nin0).keep K130 nin0).keep K132 nin0).keep K135 nin0)
    have c138 := (c134.keep K135)
    refine o_virtual W136 (y := (⟨"com/example/sluicegate/sluicegate/job/MetricReport", "count", "()J"⟩ : MethodName)) (z := (⟨"com/example/sluicegate/sluicegate/job/MetricReport", "count", "()J"⟩ : MethodName)) (w80 hw) (w81 hw) (o_nf W136 rfl (w83 hw)) (w83 hw) (w82 hw) (by decide) c138 (argsL := []) (CtrN.back (Wd := 0) W136 (rm10 l Z a0 hw r1_126 p2 h135 W136.old c137) (w84 hw) (w32 hw) (by decide) (by decide)) (by rw [hml]; rfl) (lenOf pd7 rfl) (S := []) rfl (by exact Nat.le_of_eq rfl) (pc' := 125) (hb hy at_122) rfl (cells' := 5) (slots' := 24) rfl rfl (by decide) (by decide) (wy := []) (fun _ _ _ q => ⟨q.1, q.2.1⟩) all0 (fun _ K => IW.keep K sf0 W136.inv) ?_
    intro v139 T139 h139 lo139 W139 K139 q139
    obtain rfl := q139.2.2
    show Gl _ _ _ _ _ _ _ _ [(.long p2)]
    refine o_lloadN W139 (pc' := 126) (hb hy at_125) rfl rfl ?_
    refine o_lcmp W139 (v := 0) (pc' := 127) (hb hy at_126) (own_lcs _) rfl ?_
    refine o_ifN W139 (pc' := 130) (hb hy at_127) (XT.i0_ne_f (by decide)) rfl ?_
    refine o_aload W139 (pc' := 132) (hb hy at_130) rfl rfl rfl ?_
    have c140 := (((((P126_8.keep K127 nin0).keep K130 nin0).keep K132 nin0).keep K135 nin0).keep K139 nin0)
    have c141 := (c138.keep K139)
    refine o_virtual W139 (y := (⟨"com/example/sluicegate/sluicegate/job/MetricReport", "timestamp", "()J"⟩ : MethodName)) (z := (⟨"com/example/sluicegate/sluicegate/job/MetricReport", "timestamp", "()J"⟩ : MethodName)) (w85 hw) (w86 hw) (o_nf W139 rfl (w88 hw)) (w88 hw) (w87 hw) (by decide) c141 (argsL := []) (CtrN.back (Wd := 0) W139 (rm11 l Z a0 hw r1_126 p3 h139 W139.old c140) (w89 hw) (w32 hw) (by decide) (by decide)) (by rw [hml]; rfl) (lenOf pd7 rfl) (S := []) rfl (by exact Nat.le_of_eq rfl) (pc' := 135) (hb hy at_132) rfl (cells' := 5) (slots' := 24) rfl rfl (by decide) (by decide) (wy := []) (fun _ _ _ q => ⟨q.1, q.2.1⟩) all0 (fun _ K => IW.keep K sf0 W139.inv) ?_
    intro v142 T142 h142 lo142 W142 K142 q142
    obtain rfl := q142.2.2
    show Gl _ _ _ _ _ _ _ _ [(.long p3)]
    refine o_lload W142 (pc' := 137) (hb hy at_135) rfl rfl ?_
    refine o_lcmp W142 (v := 0) (pc' := 138) (hb hy at_137) (own_lcs _) rfl ?_
    refine o_ifN W142 (pc' := 141) (hb hy at_138) (XT.i0_ne_f (by decide)) rfl ?_
    refine o_aload W142 (pc' := 143) (hb hy at_141) rfl rfl rfl ?_
    have c143 := ((((((P126_7.keep K127 nin0).keep K130 nin0).keep K132 nin0).keep K135 nin0).keep K139 nin0).keep K142 nin0)
    have c144 := (c141.keep K142)
    refine o_virtual W142 (y := (⟨"com/example/sluicegate/sluicegate/job/MetricReport", "tags", "()Ljava/util/Map;"⟩ : MethodName)) (z := (⟨"com/example/sluicegate/sluicegate/job/MetricReport", "tags", "()Ljava/util/Map;"⟩ : MethodName)) (w90 hw) (w91 hw) (o_nf W142 rfl (w93 hw)) (w93 hw) (w92 hw) (by decide) c144 (argsL := []) (CtrN.back (Wd := 0) W142 (rm12 l Z a0 hw r1_126 h142 W142.old c143) (w94 hw) (w32 hw) (by decide) (by decide)) (by rw [hml]; rfl) (lenOf pd8 rfl) (S := []) rfl (by exact Nat.le_of_eq rfl) (pc' := 146) (hb hy at_143) rfl (cells' := 5) (slots' := 24) rfl rfl (by decide) (by decide) (wy := []) (fun _ _ _ q => ⟨q.1, q.2.1⟩) all0 (fun _ K => IW.keep K sf0 W142.inv) ?_
    intro v145 T145 h145 lo145 W145 K145 q145
    obtain rfl := q145.2.2
    show Gl _ _ _ _ _ _ _ _ [.null]
    refine o_ifnonnullN W145 (pc' := 149) (hb hy at_146) rfl ?_
    refine o_aload W145 (pc' := 151) (hb hy at_149) rfl rfl rfl ?_
    have c146 := (((((((P126_5.keep K127 nin0).keep K130 nin0).keep K132 nin0).keep K135 nin0).keep K139 nin0).keep K142 nin0).keep K145 nin0)
    have c147 := (c144.keep K145)
    refine o_virtual W145 (y := (⟨"com/example/sluicegate/sluicegate/job/MetricReport", "mean", "()Ljava/time/Duration;"⟩ : MethodName)) (z := (⟨"com/example/sluicegate/sluicegate/job/MetricReport", "mean", "()Ljava/time/Duration;"⟩ : MethodName)) (w95 hw) (w96 hw) (o_nf W145 rfl (w98 hw)) (w98 hw) (w97 hw) (by decide) c147 (argsL := []) (CtrN.back (Wd := 0) W145 (rm13 l Z a0 hw gZ r1_126 h145 W145.old c146) (w99 hw) (w32 hw) (by decide) (by decide)) (by rw [hml]; rfl) (lenOf pd9 rfl) (S := []) rfl (by exact Nat.le_of_eq rfl) (pc' := 154) (hb hy at_151) rfl (cells' := 5) (slots' := 24) rfl rfl (by decide) (by decide) (wy := []) (fun _ _ _ q => ⟨q.1, q.2.1⟩) all0 (fun _ K => IW.keep K sf0 W145.inv) ?_
    intro v148 T148 h148 lo148 W148 K148 q148
    obtain rfl := q148.2.2
    show Gl _ _ _ _ _ _ _ _ [(.ref gZ)]
    refine o_aload W148 (pc' := 156) (hb hy at_154) rfl rfl rfl ?_
    have c149 := (((((((P127_5.keep K130 nin0).keep K132 nin0).keep K135 nin0).keep K139 nin0).keep K142 nin0).keep K145 nin0).keep K148 nin0)
    have c150 := (((((((P127_1.keep K130).keep K132).keep K135).keep K139).keep K142).keep K145).keep K148)
    refine o_virtual W148 (y := (⟨"com/example/sluicegate/sluicegate/job/MetricReport", "mean", "()Ljava/time/Duration;"⟩ : MethodName)) (z := (⟨"com/example/sluicegate/sluicegate/job/MetricReport", "mean", "()Ljava/time/Duration;"⟩ : MethodName)) (w95 hw) (w96 hw) (o_nf W148 rfl (w98 hw)) (w98 hw) (w97 hw) (by decide) c150 (argsL := []) (CtrN.back (Wd := 1) W148 (rm13 l Z a0 hw gZ r1_127 h148 W148.old c149) (w99 hw) (w32 hw) (by decide) (by decide)) (by rw [hml]; rfl) (lenOf pd9 rfl) (S := [(.ref gZ)]) rfl (by exact Nat.le_of_eq rfl) (pc' := 159) (hb hy at_156) rfl (cells' := 5) (slots' := 24) rfl rfl (by decide) (by decide) (wy := []) (fun _ _ _ q => ⟨q.1, q.2.1⟩) all0 (fun _ K => IW.keep K sf0 W148.inv) ?_
    intro v151 T151 h151 lo151 W151 K151 q151
    obtain rfl := q151.2.2
    show Gl _ _ _ _ _ _ _ _ [(.ref gZ), (.ref gZ)]
    refine o_acmpN W151 (pc' := 162) (hb hy at_159) rfl rfl (XT.aa_ne_f rfl) rfl ?_
    refine o_aload W151 (pc' := 164) (hb hy at_162) rfl rfl rfl ?_
    have c152 := (((((((((P126_6.keep K127 nin0).keep K130 nin0).keep K132 nin0).keep K135 nin0).keep K139 nin0).keep K142 nin0).keep K145 nin0).keep K148 nin0).keep K151 nin0)
    have c153 := ((c147.keep K148).keep K151)
    refine o_virtual W151 (y := (⟨"com/example/sluicegate/sluicegate/job/MetricReport", "max", "()Ljava/time/Duration;"⟩ : MethodName)) (z := (⟨"com/example/sluicegate/sluicegate/job/MetricReport", "max", "()Ljava/time/Duration;"⟩ : MethodName)) (w100 hw) (w101 hw) (o_nf W151 rfl (w103 hw)) (w103 hw) (w102 hw) (by decide) c153 (argsL := []) (CtrN.back (Wd := 0) W151 (rm14 l Z a0 hw gZ r1_126 h151 W151.old c152) (w104 hw) (w32 hw) (by decide) (by decide)) (by rw [hml]; rfl) (lenOf pd9 rfl) (S := []) rfl (by exact Nat.le_of_eq rfl) (pc' := 167) (hb hy at_164) rfl (cells' := 5) (slots' := 24) rfl rfl (by decide) (by decide) (wy := []) (fun _ _ _ q => ⟨q.1, q.2.1⟩) all0 (fun _ K => IW.keep K sf0 W151.inv) ?_
    intro v154 T154 h154 lo154 W154 K154 q154
    obtain rfl := q154.2.2
    show Gl _ _ _ _ _ _ _ _ [(.ref gZ)]
    refine o_aload W154 (pc' := 169) (hb hy at_167) rfl rfl rfl ?_
    have c155 := (((((((((P127_6.keep K130 nin0).keep K132 nin0).keep K135 nin0).keep K139 nin0).keep K142 nin0).keep K145 nin0).keep K148 nin0).keep K151 nin0).keep K154 nin0)
    have c156 := ((c150.keep K151).keep K154)
    refine o_virtual W154 (y := (⟨"com/example/sluicegate/sluicegate/job/MetricReport", "max", "()Ljava/time/Duration;"⟩ : MethodName)) (z := (⟨"com/example/sluicegate/sluicegate/job/MetricReport", "max", "()Ljava/time/Duration;"⟩ : MethodName)) (w100 hw) (w101 hw) (o_nf W154 rfl (w103 hw)) (w103 hw) (w102 hw) (by decide) c156 (argsL := []) (CtrN.back (Wd := 1) W154 (rm14 l Z a0 hw gZ r1_127 h154 W154.old c155) (w104 hw) (w32 hw) (by decide) (by decide)) (by rw [hml]; rfl) (lenOf pd9 rfl) (S := [(.ref gZ)]) rfl (by exact Nat.le_of_eq rfl) (pc' := 172) (hb hy at_169) rfl (cells' := 5) (slots' := 24) rfl rfl (by decide) (by decide) (wy := []) (fun _ _ _ q => ⟨q.1, q.2.1⟩) all0 (fun _ K => IW.keep K sf0 W154.inv) ?_
    intro v157 T157 h157 lo157 W157 K157 q157
    obtain rfl := q157.2.2
    show Gl _ _ _ _ _ _ _ _ [(.ref gZ), (.ref gZ)]
    refine o_acmpN W157 (pc' := 175) (hb hy at_172) rfl rfl (XT.aa_ne_f rfl) rfl ?_
    refine o_iconst W157 (v := 1) (pc' := 176) (hb hy at_175) rfl rfl ?_
    refine o_goto W157 (pc' := 180) (hb hy at_176) (by decide) rfl ?_
    exact o_retNW W157 (own_EL hw) hlk (t := .boolean) hret (by simp) (z' := (1 : Int32)) (by decide) (hb hy at_180) (by decide) (by decide) rfl
theorem comes_1 {Post : Tables → Env → Array Value → State → Outcome → State → Prop} (hpost : ∀ tb e args s v u, (limb_1_1.after args s (.returned v) u = true ∧ limb_1_2.after args s (.returned v) u = true ∧ True) → Jvm.ReturnedEndW s (.returned v) u (Jvm.fieldLocs frame_1_writes args s ++ Jvm.arrayLocs frame_1_arrays args s ++ Jvm.staticLocs frame_1_statics s) 24 1152 → Post tb e args s (.returned v) u) :
    ArmFor flags0 classFile x code maxLocals ret World_1 tables_1 room_1 Calls_1 rest_1 Pre_1 Post := by
  intro l hfl _ _ p e ha hc hk s m args below hf hA hF happ hP
  obtain ⟨hcalls, hrest, hpre⟩ := hP
  obtain ⟨-, -, -, hnamed, -, -, -, hat⟩ := (Spec.applies_iff hf).mp happ
  obtain ⟨hg, hn⟩ := and_e (Cond.before_iff.mp (show (Jvm.Cond.and given_1 narrow_1).before args s = true from hpre))
  obtain ⟨g1, g2⟩ := and_e hg
  obtain ⟨g3, g4⟩ := and_e g2
  obtain ⟨g5, g6⟩ := and_e g4
  obtain ⟨g7, g8⟩ := and_e g6
  obtain ⟨w0, w1, w2, w3, rfl⟩ : ∃ w0 w1 w2 w3 : Value, args = #[w0, w1, w2, w3] := by
    have hs : args.size = 4 := by simpa [Cond.value, given_1] using g1
    obtain ⟨L⟩ := args
    match L, hs with
    | [w0, w1, w2, w3], _ => exact ⟨w0, w1, w2, w3, rfl⟩
  obtain ⟨i0, ei0⟩ := is_v g3
  obtain rfl : w0 = (.int i0) := Option.some.inj ei0
  obtain ⟨i1, ei1⟩ := is_v g5
  obtain rfl : w1 = (.int i1) := Option.some.inj ei1
  obtain ⟨i2, ei2⟩ := isL_v g7
  obtain rfl : w2 = (.long i2) := Option.some.inj ei2
  obtain ⟨i3, ei3⟩ := isL_v g8
  obtain rfl : w3 = (.long i3) := Option.some.inj ei3
  have hw := fun d (hd : d ∈ tables_1) => atoms_spec (ws := Jvm.Cond.code x code maxLocals ret :: tables_1) hat d (List.mem_cons_of_mem _ hd)
  have hfit : Fit s := fun {y c} hc i hi => by
    obtain ⟨ha, rfl⟩ := Array.getElem?_eq_some_iff.mp hc
    have q := List.all_eq_true.mp ((Array.all_eq_true_iff_forall_mem.mp hF) _ (Array.getElem_mem ha)) i (List.mem_range.mpr hi)
    simpa [Array.getElem?_eq_getElem hi] using q
  obtain ⟨hsets, hown0⟩ := atoms_of _ (rest_1_c_eq ▸ (show rest_1_c.before _ s = true from hrest))
  obtain ⟨gCS, eCS⟩ := is_v (Cond.before_iff.mp (hsets _ (List.mem_of_getElem? (i := 1) rfl)))
  have SgCS := Sta.start eCS (Or.inl (hsets _ (List.mem_of_getElem? (i := 0) rfl)))
  have NgCS : ¬ (gCS = (0 : Int32)) := gotF (own_eqS eCS) (not_v (Cond.before_iff.mp (hsets _ (List.mem_of_getElem? (i := 2) rfl))))
  obtain ⟨n1, n2⟩ := and_e hn
  obtain ⟨gC, -, SgC, -⟩ := own_stE n2 (Or.inr ⟨(w37 hw), (w63 hw)⟩)
  obtain ⟨gM, -, SgM, -⟩ := own_stE n1 (Or.inr ⟨(w37 hw), (w38 hw)⟩)
  obtain ⟨gZ, -, SgZ, -⟩ := own_stE (Cond.before_iff.mp (hsets _ (List.mem_of_getElem? (i := 11) rfl))) (Or.inl (hsets _ (List.mem_of_getElem? (i := 10) rfl)))
  have hCH : CHv s consts_1 s.vm s.heap := CHv.start (own_EL hw) (show ∀ p ∈ consts_1, Jvm.Lit.constHeld s p.1 p.2 from hcalls.1) (show Jvm.Lit.compactW.before _ s = true from (hsets _ (List.mem_of_getElem? (i := 2) rfl))) (w19 hw) (w2 hw)
  obtain ⟨n, o, h1, h2, h3, _, L, rfl, ⟨N, -, rfl⟩, -, hq⟩ := rm_law l s _ hw gCS gC gM gZ i0 i1 i2 i3 s.heap (Old.start s) SgM SgZ SgC SgCS NgCS p e ha hc hk s m _ below hf ((Spec.applies_iff_loose hf).mp happ).1 ⟨rfl, State.Warmed39.refl s, rfl, hCH⟩ trivial
  refine ⟨n, _, h1, h2, h3, hpost _ _ _ _ _ _ ⟨Cond.after_iff.mpr rfl, Cond.after_iff.mpr (eq_i res_at (Term.int_eval (1)) rfl), trivial⟩ ⟨hq.1, hq.2.1, hq.2.2.1, (hq.2.2.2.sift fun y hy => Or.inr (N y hy)).mono (by decide) (by decide)⟩⟩
theorem main_1_1 : Claimed_1_1 := comes_1 fun _ _ _ _ _ _ h hF => ⟨h.1, hF⟩
theorem main_1_2 : Claimed_1_2 := comes_1 fun _ _ _ _ _ _ h hF => ⟨h.2.1, hF⟩
end Jvm.Pilot.@@N@@
namespace Jvm.Pilot.@@N@@
open Jvm Jvm.ClassFile Sem Op Lib Jvm.Free Jvm.Stand Jvm.Pilot.@@N@@.Jvm.D
/-! MADE BY PROGRAM (witnessworld.py) out of the Statement's table words and the real class files: 24 classes; the members and pool entries that the words name. The judged class is class 1, her method 1. -/
namespace start1
open Jvm.ClassFile
def u (s : String) : CpInfo := .utf8 (stringToUtf16 s)
/-- a pool by its gaps: so many unusable entries, then the entry; so many at the end -/
def gap : Nat → List CpInfo → List CpInfo
  | 0, r => r
  | n + 1, r => .unusable :: gap n r
def poolList (es : List (Nat × CpInfo)) (last : Nat) : List CpInfo := es.foldr (fun e r => gap e.1 (e.2 :: r)) (gap last [])
def pool (es : List (Nat × CpInfo)) (last : Nat) : Array CpInfo := ⟨poolList es last⟩
def fileOf (pool : Array CpInfo) (this : Nat) (attrs : Array Attribute := #[]) (ms : Array MethodInfo := #[]) (fl : Nat := 33) (sup : Nat := 0) (ifs : Array Nat := #[]) (fds : Array FieldInfo := #[]) : ClassFile where
  minorVersion := 0
  majorVersion := 65
  constantPool := pool
  accessFlags := fl
  thisClass := this
  superClass := sup
  interfaces := ifs
  fields := fds
  methods := ms
  attributes := attrs
def plain (name : String) (sup : Option ClassId) : Class where
  name := name
  kind := .ordinary
  loader := none
  accessFlags := 33
  super := sup
  interfaces := #[]
  cf := none
  fields := #[]
  methods := #[]
  instanceTypes := #[]
  staticTypes := #[]
  resolved := #[]
  callSites := []
  init := .initialized
  statics := none
  mirror := none

def pool0 : Array CpInfo := pool [(5, u "<init>"), (0, u "()V"), (1, .class_ 10), (1, u "java/lang/Object")] 113

def k0c0 : Code := { maxStack := 0, maxLocals := 1, code := object_method_1_code, exceptionTable := #[], attributes := #[] }
def k0m0 : Method := { name := "<init>", desc := "()V", sig := { parameters := [], returnType := none }, accessFlags := 1, code := some k0c0 }
/-- java/lang/Object -/
def k0 : Class := { plain "java/lang/Object" none with
  accessFlags := 33
  interfaces := #[]
  cf := some (fileOf pool0 8 #[] #[{ accessFlags := 1, nameIndex := 5, descriptorIndex := 6, attributes := #[] }] 33 0 #[] #[])
  fields := #[]
  methods := #[k0m0]
  instanceTypes := #[]
  staticTypes := #[]
  resolved := Array.replicate 124 none
  statics := none }

def pool1 : Array CpInfo := pool [(2, .class_ 4), (1, u "java/lang/Object"), (0, u "<init>"), (0, u "()V"), (0, .class_ 8), (0, u "java/lang/String"), (0, .methodref 7 10), (0, .nameAndType 5 11), (0, u "([C)V"), (0, .methodref 13 14), (0, .class_ 15), (0, .nameAndType 16 17), (0, u "com/example/sluicegate/sluicegate/job/MetricReport"), (0, u "meter"), (0, u "(Ljava/lang/String;JLjava/util/Map;J)Lcom/example/sluicegate/sluicegate/job/MetricReport;"), (0, .methodref 13 19), (0, .nameAndType 20 17), (0, u "counter"), (0, .methodref 13 22), (0, .nameAndType 23 24), (0, u "name"), (0, u "()Ljava/lang/String;"), (0, .methodref 7 26), (0, .nameAndType 27 28), (0, u "equals"), (0, u "(Ljava/lang/Object;)Z"), (0, .methodref 13 30), (0, .nameAndType 31 32), (0, u "type"), (0, u "()Lcom/example/sluicegate/sluicegate/job/MetricReport$Type;"), (0, .fieldref 34 35), (0, .class_ 36), (0, .nameAndType 37 38), (0, u "com/example/sluicegate/sluicegate/job/MetricReport$Type"), (0, u "METER"), (0, u "Lcom/example/sluicegate/sluicegate/job/MetricReport$Type;"), (0, .methodref 13 40), (0, .nameAndType 41 42), (0, u "count"), (0, u "()J"), (0, .methodref 13 44), (0, .nameAndType 45 42), (0, u "timestamp"), (0, .methodref 13 47), (0, .nameAndType 48 49), (0, u "tags"), (0, u "()Ljava/util/Map;"), (0, .methodref 13 51), (0, .nameAndType 52 53), (0, u "mean"), (0, u "()Ljava/time/Duration;"), (0, .methodref 13 55), (0, .nameAndType 56 53), (0, u "max"), (0, .class_ 58), (0, u "com/example/sluicegate/sluicegate/job/MetricReportMeterPinLaw"), (2, u "law"), (0, u "(IIJJ)Z")] 7

def k1m0 : Method := { name := "<init>", desc := "()V", sig := { parameters := [], returnType := none }, accessFlags := 1, code := none }
def k1c1 : Code := { maxStack := 6, maxLocals := 11, code := code, exceptionTable := #[], attributes := #[] }
def k1m1 : Method := { name := "law", desc := "(IIJJ)Z", sig := { parameters := [.int, .int, .long, .long], returnType := some .boolean }, accessFlags := 9, code := some k1c1 }
/-- com/example/sluicegate/sluicegate/job/MetricReportMeterPinLaw -/
def k1 : Class := { plain "com/example/sluicegate/sluicegate/job/MetricReportMeterPinLaw" (some 0) with
  accessFlags := 49
  interfaces := #[]
  cf := some (fileOf pool1 57 #[] #[{ accessFlags := 1, nameIndex := 5, descriptorIndex := 6, attributes := #[] }, { accessFlags := 9, nameIndex := 61, descriptorIndex := 62, attributes := #[] }] 49 2 #[] #[])
  fields := #[]
  methods := #[k1m0, k1m1]
  instanceTypes := #[]
  staticTypes := #[]
  resolved := Array.replicate 70 none
  statics := none }

def pool2 : Array CpInfo := pool [(1, .class_ 2), (0, u "java/io/Serializable"), (0, .class_ 4), (0, u "java/lang/Object")] 2

/-- java/io/Serializable -/
def k2 : Class := { plain "java/io/Serializable" (some 0) with
  accessFlags := 1537
  interfaces := #[]
  cf := some (fileOf pool2 1 #[] #[] 1537 3 #[] #[])
  fields := #[]
  methods := #[]
  instanceTypes := #[]
  staticTypes := #[]
  resolved := Array.replicate 7 none
  statics := none }

def pool3 : Array CpInfo := pool [(1, .class_ 2), (0, u "java/lang/Comparable"), (0, .class_ 4), (0, u "java/lang/Object")] 7

/-- java/lang/Comparable -/
def k3 : Class := { plain "java/lang/Comparable" (some 0) with
  accessFlags := 1537
  interfaces := #[]
  cf := some (fileOf pool3 1 #[] #[] 1537 3 #[] #[])
  fields := #[]
  methods := #[]
  instanceTypes := #[]
  staticTypes := #[]
  resolved := Array.replicate 12 none
  statics := none }

def pool4 : Array CpInfo := pool [(2, .class_ 4), (1, u "java/lang/CharSequence"), (42, .class_ 48), (0, u "java/lang/CharSequence$1CodePointIterator"), (10, .class_ 60), (0, u "java/lang/CharSequence$1CharIterator"), (5, .class_ 67), (0, u "java/lang/Object")] 63

/-- java/lang/CharSequence -/
def k4 : Class := { plain "java/lang/CharSequence" (some 0) with
  accessFlags := 1537
  interfaces := #[]
  cf := some (fileOf pool4 2 #[.nestMembers #[47, 59]] #[] 1537 66 #[] #[])
  fields := #[]
  methods := #[]
  instanceTypes := #[]
  staticTypes := #[]
  resolved := Array.replicate 131 none
  statics := none }

def pool5 : Array CpInfo := pool [(1, .class_ 2), (0, u "java/lang/constant/Constable"), (0, .class_ 4), (0, u "java/lang/Object")] 6

/-- java/lang/constant/Constable -/
def k5 : Class := { plain "java/lang/constant/Constable" (some 0) with
  accessFlags := 1537
  interfaces := #[]
  cf := some (fileOf pool5 1 #[] #[] 1537 3 #[] #[])
  fields := #[]
  methods := #[]
  instanceTypes := #[]
  staticTypes := #[]
  resolved := Array.replicate 11 none
  statics := none }

def pool6 : Array CpInfo := pool [(1, .class_ 2), (0, u "java/lang/constant/ConstantDesc"), (0, .class_ 4), (0, u "java/lang/Object")] 32

/-- java/lang/constant/ConstantDesc -/
def k6 : Class := { plain "java/lang/constant/ConstantDesc" (some 0) with
  accessFlags := 1537
  interfaces := #[]
  cf := some (fileOf pool6 1 #[] #[] 1537 3 #[] #[])
  fields := #[]
  methods := #[]
  instanceTypes := #[]
  staticTypes := #[]
  resolved := Array.replicate 37 none
  statics := none }

def pool7 : Array CpInfo := pool [(1, .methodref 2 3), (0, .class_ 4), (0, .nameAndType 5 6), (0, u "java/lang/Object"), (0, u "<init>"), (0, u "()V"), (0, .string 8), (0, u ""), (0, .fieldref 10 11), (0, .class_ 12), (0, .nameAndType 13 14), (0, u "java/lang/String"), (0, u "value"), (0, u "[B"), (0, .fieldref 10 16), (0, .nameAndType 17 18), (0, u "coder"), (0, u "B"), (2, u "hash"), (0, u "I"), (2, u "hashIsZero"), (0, u "Z"), (0, .methodref 10 28), (0, .nameAndType 5 29), (0, u "([CIILjava/lang/Void;)V"), (8, .fieldref 10 39), (0, .nameAndType 40 26), (0, u "COMPACT_STRINGS"), (1, .class_ 44), (1, u "java/lang/StringUTF16"), (0, u "compress"), (1, .methodref 42 48), (0, .nameAndType 49 50), (0, u "coderFromArrayLen"), (0, u "([BI)B"), (126, .methodref 42 178), (0, .nameAndType 45 179), (0, u "([CII)[B"), (363, u "equals"), (29, u "(Ljava/lang/Object;)Z"), (1, .class_ 576), (0, u "java/lang/CharSequence"), (22, u "CASE_INSENSITIVE_ORDER"), (0, u "Ljava/util/Comparator;"), (409, u "([C)V"), (90, u "serialPersistentFields"), (0, u "[Ljava/io/ObjectStreamField;"), (0, .class_ 1104), (0, u "java/lang/String$CaseInsensitiveComparator"), (1, .class_ 1107), (0, u "java/io/Serializable"), (0, .class_ 1109), (0, u "java/lang/Comparable"), (0, .class_ 1111), (0, u "java/lang/constant/Constable"), (0, .class_ 1113), (0, u "java/lang/constant/ConstantDesc"), (2, u "serialVersionUID"), (0, u "J"), (3, u "REPL"), (0, u "C"), (2, u "LATIN1"), (1, u "UTF16")] 323

def k7m0 : Method := { name := "<init>", desc := "()V", sig := { parameters := [], returnType := none }, accessFlags := 1, code := none }
def k7c1 : Code := { maxStack := 5, maxLocals := 2, code := jdk_42_method_3_code, exceptionTable := #[], attributes := #[] }
def k7m1 : Method := { name := "<init>", desc := "([C)V", sig := { parameters := [(.array .char)], returnType := none }, accessFlags := 1, code := some k7c1 }
def k7c2 : Code := { maxStack := 2, maxLocals := 3, code := jdk_42_method_66_code, exceptionTable := #[], attributes := #[] }
def k7m2 : Method := { name := "equals", desc := "(Ljava/lang/Object;)Z", sig := { parameters := [(.object "java/lang/Object")], returnType := some .boolean }, accessFlags := 1, code := some k7c2 }
def k7c3 : Code := { maxStack := 4, maxLocals := 6, code := jdk_42_method_149_code, exceptionTable := #[], attributes := #[] }
def k7m3 : Method := { name := "<init>", desc := "([CIILjava/lang/Void;)V", sig := { parameters := [(.array .char), .int, .int, (.object "java/lang/Void")], returnType := none }, accessFlags := 2, code := some k7c3 }
/-- java/lang/String -/
def k7 : Class := { plain "java/lang/String" (some 0) with
  accessFlags := 49
  interfaces := #[2, 3, 4, 5, 6]
  cf := some (fileOf pool7 10 #[.nestMembers #[1103]] #[{ accessFlags := 1, nameIndex := 5, descriptorIndex := 6, attributes := #[] }, { accessFlags := 1, nameIndex := 5, descriptorIndex := 1010, attributes := #[] }, { accessFlags := 1, nameIndex := 543, descriptorIndex := 573, attributes := #[] }, { accessFlags := 2, nameIndex := 5, descriptorIndex := 29, attributes := #[] }] 49 2 #[1106, 1108, 575, 1110, 1112] #[{ accessFlags := 18, nameIndex := 13, descriptorIndex := 14, attributes := #[] }, { accessFlags := 18, nameIndex := 17, descriptorIndex := 18, attributes := #[] }, { accessFlags := 2, nameIndex := 21, descriptorIndex := 22, attributes := #[] }, { accessFlags := 2, nameIndex := 25, descriptorIndex := 26, attributes := #[] }, { accessFlags := 26, nameIndex := 1116, descriptorIndex := 1117, attributes := #[] }, { accessFlags := 24, nameIndex := 40, descriptorIndex := 26, attributes := #[] }, { accessFlags := 26, nameIndex := 1101, descriptorIndex := 1102, attributes := #[] }, { accessFlags := 26, nameIndex := 1121, descriptorIndex := 1122, attributes := #[] }, { accessFlags := 25, nameIndex := 599, descriptorIndex := 600, attributes := #[] }, { accessFlags := 24, nameIndex := 1125, descriptorIndex := 18, attributes := #[] }, { accessFlags := 24, nameIndex := 1127, descriptorIndex := 18, attributes := #[] }])
  fields := #[{ name := "value", type := (.array .byte), accessFlags := 18, slot := 0, constantValue := 0 }, { name := "coder", type := .byte, accessFlags := 18, slot := 1, constantValue := 0 }, { name := "hash", type := .int, accessFlags := 2, slot := 2, constantValue := 0 }, { name := "hashIsZero", type := .boolean, accessFlags := 2, slot := 3, constantValue := 0 }, { name := "serialVersionUID", type := .long, accessFlags := 26, slot := 0, constantValue := 0 }, { name := "COMPACT_STRINGS", type := .boolean, accessFlags := 24, slot := 1, constantValue := 0 }, { name := "serialPersistentFields", type := (.array (.object "java/io/ObjectStreamField")), accessFlags := 26, slot := 2, constantValue := 0 }, { name := "REPL", type := .char, accessFlags := 26, slot := 3, constantValue := 0 }, { name := "CASE_INSENSITIVE_ORDER", type := (.object "java/util/Comparator"), accessFlags := 25, slot := 4, constantValue := 0 }, { name := "LATIN1", type := .byte, accessFlags := 24, slot := 5, constantValue := 0 }, { name := "UTF16", type := .byte, accessFlags := 24, slot := 6, constantValue := 0 }]
  methods := #[k7m0, k7m1, k7m2, k7m3]
  instanceTypes := #[(.array .byte), .byte, .int, .boolean]
  staticTypes := #[.long, .boolean, (.array (.object "java/io/ObjectStreamField")), .char, (.object "java/util/Comparator"), .byte, .byte]
  resolved := Array.replicate 1451 none
  statics := some 0 }

def pool8 : Array CpInfo := pool [(6, .class_ 8), (1, u "java/lang/Object"), (0, u "<init>"), (0, u "()V"), (1, .class_ 14), (1, u "java/lang/StringUTF16"), (31, u "$assertionsDisabled"), (0, u "Z"), (13, u "HI_BYTE_SHIFT"), (0, u "I"), (2, u "LO_BYTE_SHIFT"), (49, .methodref 12 116), (0, .nameAndType 117 118), (0, u "compress"), (0, u "([CI[BII)I"), (3, u "([CII)[B"), (138, u "coderFromArrayLen"), (0, u "([BI)B"), (106, .class_ 371), (1, u "java/lang/StringUTF16$LinesSpliterator"), (58, u "MAX_LENGTH"), (196, .class_ 628), (0, u "java/lang/StringUTF16$CodePointsSpliterator"), (0, .class_ 630), (0, u "java/lang/StringUTF16$CharsSpliterator")] 4

def k8m0 : Method := { name := "<init>", desc := "()V", sig := { parameters := [], returnType := none }, accessFlags := 0, code := none }
def k8c1 : Code := { maxStack := 2, maxLocals := 2, code := jdk_52_method_15_code, exceptionTable := #[], attributes := #[] }
def k8m1 : Method := { name := "coderFromArrayLen", desc := "([BI)B", sig := { parameters := [(.array .byte), .int], returnType := some .byte }, accessFlags := 8, code := some k8c1 }
def k8c2 : Code := { maxStack := 5, maxLocals := 6, code := jdk_52_method_16_code, exceptionTable := #[], attributes := #[] }
def k8m2 : Method := { name := "compress", desc := "([CII)[B", sig := { parameters := [(.array .char), .int, .int], returnType := some (.array .byte) }, accessFlags := 9, code := some k8c2 }
def k8c3 : Code := { maxStack := 3, maxLocals := 7, code := jdk_52_method_21_code, exceptionTable := #[], attributes := #[] }
def k8m3 : Method := { name := "compress", desc := "([CI[BII)I", sig := { parameters := [(.array .char), .int, (.array .byte), .int, .int], returnType := some .int }, accessFlags := 9, code := some k8c3 }
/-- java/lang/StringUTF16 -/
def k8 : Class := { plain "java/lang/StringUTF16" (some 0) with
  accessFlags := 48
  interfaces := #[]
  cf := some (fileOf pool8 12 #[.nestMembers #[627, 629, 369]] #[{ accessFlags := 0, nameIndex := 9, descriptorIndex := 10, attributes := #[] }, { accessFlags := 8, nameIndex := 261, descriptorIndex := 262, attributes := #[] }, { accessFlags := 9, nameIndex := 117, descriptorIndex := 122, attributes := #[] }, { accessFlags := 9, nameIndex := 117, descriptorIndex := 118, attributes := #[] }] 48 6 #[] #[{ accessFlags := 26, nameIndex := 61, descriptorIndex := 62, attributes := #[] }, { accessFlags := 26, nameIndex := 65, descriptorIndex := 62, attributes := #[] }, { accessFlags := 24, nameIndex := 430, descriptorIndex := 62, attributes := #[] }, { accessFlags := 4120, nameIndex := 46, descriptorIndex := 47, attributes := #[] }])
  fields := #[{ name := "HI_BYTE_SHIFT", type := .int, accessFlags := 26, slot := 0, constantValue := 0 }, { name := "LO_BYTE_SHIFT", type := .int, accessFlags := 26, slot := 1, constantValue := 0 }, { name := "MAX_LENGTH", type := .int, accessFlags := 24, slot := 2, constantValue := 0 }, { name := "$assertionsDisabled", type := .boolean, accessFlags := 4120, slot := 3, constantValue := 0 }]
  methods := #[k8m0, k8m1, k8m2, k8m3]
  instanceTypes := #[]
  staticTypes := #[.int, .int, .int, .boolean]
  resolved := Array.replicate 635 none
  statics := none }

def pool9 : Array CpInfo := pool [(1, .methodref 2 3), (0, .class_ 4), (0, .nameAndType 5 6), (0, u "java/lang/Object"), (0, u "<init>"), (0, u "()V"), (0, .fieldref 8 9), (0, .class_ 10), (0, .nameAndType 11 12), (0, u "com/example/sluicegate/sluicegate/job/MetricReport"), (0, u "name"), (0, u "Ljava/lang/String;"), (0, .fieldref 8 14), (0, .nameAndType 15 16), (0, u "type"), (0, u "Lcom/example/sluicegate/sluicegate/job/MetricReport$Type;"), (0, .fieldref 8 18), (0, .nameAndType 19 20), (0, u "count"), (0, u "J"), (0, .fieldref 8 22), (0, .nameAndType 23 24), (0, u "mean"), (0, u "Ljava/time/Duration;"), (0, .fieldref 8 26), (0, .nameAndType 27 24), (0, u "max"), (0, .fieldref 8 29), (0, .nameAndType 30 31), (0, u "tags"), (0, u "Ljava/util/Map;"), (0, .fieldref 8 33), (0, .nameAndType 34 20), (0, u "timestamp"), (0, .fieldref 36 37), (0, .class_ 38), (0, .nameAndType 39 16), (0, u "com/example/sluicegate/sluicegate/job/MetricReport$Type"), (0, u "COUNTER"), (0, .fieldref 41 42), (0, .class_ 43), (0, .nameAndType 44 24), (0, u "java/time/Duration"), (0, u "ZERO"), (0, .methodref 8 46), (0, .nameAndType 5 47), (0, u "(Ljava/lang/String;Lcom/example/sluicegate/sluicegate/job/MetricReport$Type;JLjava/time/Duration;Ljava/time/Duration;Ljava/util/Map;J)V"), (0, .fieldref 36 49), (0, .nameAndType 50 16), (0, u "METER"), (8, u "counter"), (0, u "(Ljava/lang/String;JLjava/util/Map;J)Lcom/example/sluicegate/sluicegate/job/MetricReport;"), (1, u "meter"), (3, u "()Ljava/lang/String;"), (0, u "()Lcom/example/sluicegate/sluicegate/job/MetricReport$Type;"), (0, u "()J"), (0, u "()Ljava/time/Duration;"), (0, u "()Ljava/util/Map;")] 6

def k9c0 : Code := { maxStack := 3, maxLocals := 10, code := prog_16_method_1_code, exceptionTable := #[], attributes := #[] }
def k9m0 : Method := { name := "<init>", desc := "(Ljava/lang/String;Lcom/example/sluicegate/sluicegate/job/MetricReport$Type;JLjava/time/Duration;Ljava/time/Duration;Ljava/util/Map;J)V", sig := { parameters := [(.object "java/lang/String"), (.object "com/example/sluicegate/sluicegate/job/MetricReport$Type"), .long, (.object "java/time/Duration"), (.object "java/time/Duration"), (.object "java/util/Map"), .long], returnType := none }, accessFlags := 2, code := some k9c0 }
def k9c1 : Code := { maxStack := 11, maxLocals := 6, code := prog_16_method_2_code, exceptionTable := #[], attributes := #[] }
def k9m1 : Method := { name := "counter", desc := "(Ljava/lang/String;JLjava/util/Map;J)Lcom/example/sluicegate/sluicegate/job/MetricReport;", sig := { parameters := [(.object "java/lang/String"), .long, (.object "java/util/Map"), .long], returnType := some (.object "com/example/sluicegate/sluicegate/job/MetricReport") }, accessFlags := 8, code := some k9c1 }
def k9c2 : Code := { maxStack := 11, maxLocals := 6, code := prog_16_method_3_code, exceptionTable := #[], attributes := #[] }
def k9m2 : Method := { name := "meter", desc := "(Ljava/lang/String;JLjava/util/Map;J)Lcom/example/sluicegate/sluicegate/job/MetricReport;", sig := { parameters := [(.object "java/lang/String"), .long, (.object "java/util/Map"), .long], returnType := some (.object "com/example/sluicegate/sluicegate/job/MetricReport") }, accessFlags := 8, code := some k9c2 }
def k9c3 : Code := { maxStack := 1, maxLocals := 1, code := prog_16_method_5_code, exceptionTable := #[], attributes := #[] }
def k9m3 : Method := { name := "name", desc := "()Ljava/lang/String;", sig := { parameters := [], returnType := some (.object "java/lang/String") }, accessFlags := 1, code := some k9c3 }
def k9c4 : Code := { maxStack := 1, maxLocals := 1, code := prog_16_method_6_code, exceptionTable := #[], attributes := #[] }
def k9m4 : Method := { name := "type", desc := "()Lcom/example/sluicegate/sluicegate/job/MetricReport$Type;", sig := { parameters := [], returnType := some (.object "com/example/sluicegate/sluicegate/job/MetricReport$Type") }, accessFlags := 1, code := some k9c4 }
def k9c5 : Code := { maxStack := 2, maxLocals := 1, code := prog_16_method_7_code, exceptionTable := #[], attributes := #[] }
def k9m5 : Method := { name := "count", desc := "()J", sig := { parameters := [], returnType := some .long }, accessFlags := 1, code := some k9c5 }
def k9c6 : Code := { maxStack := 1, maxLocals := 1, code := prog_16_method_8_code, exceptionTable := #[], attributes := #[] }
def k9m6 : Method := { name := "mean", desc := "()Ljava/time/Duration;", sig := { parameters := [], returnType := some (.object "java/time/Duration") }, accessFlags := 1, code := some k9c6 }
def k9c7 : Code := { maxStack := 1, maxLocals := 1, code := prog_16_method_9_code, exceptionTable := #[], attributes := #[] }
def k9m7 : Method := { name := "max", desc := "()Ljava/time/Duration;", sig := { parameters := [], returnType := some (.object "java/time/Duration") }, accessFlags := 1, code := some k9c7 }
def k9c8 : Code := { maxStack := 1, maxLocals := 1, code := prog_16_method_10_code, exceptionTable := #[], attributes := #[] }
def k9m8 : Method := { name := "tags", desc := "()Ljava/util/Map;", sig := { parameters := [], returnType := some (.object "java/util/Map") }, accessFlags := 1, code := some k9c8 }
def k9c9 : Code := { maxStack := 2, maxLocals := 1, code := prog_16_method_11_code, exceptionTable := #[], attributes := #[] }
def k9m9 : Method := { name := "timestamp", desc := "()J", sig := { parameters := [], returnType := some .long }, accessFlags := 1, code := some k9c9 }
/-- com/example/sluicegate/sluicegate/job/MetricReport -/
def k9 : Class := { plain "com/example/sluicegate/sluicegate/job/MetricReport" (some 0) with
  accessFlags := 49
  interfaces := #[]
  cf := some (fileOf pool9 8 #[.nestMembers #[36]] #[{ accessFlags := 2, nameIndex := 5, descriptorIndex := 47, attributes := #[] }, { accessFlags := 8, nameIndex := 59, descriptorIndex := 60, attributes := #[] }, { accessFlags := 8, nameIndex := 62, descriptorIndex := 60, attributes := #[] }, { accessFlags := 1, nameIndex := 11, descriptorIndex := 66, attributes := #[] }, { accessFlags := 1, nameIndex := 15, descriptorIndex := 67, attributes := #[] }, { accessFlags := 1, nameIndex := 19, descriptorIndex := 68, attributes := #[] }, { accessFlags := 1, nameIndex := 23, descriptorIndex := 69, attributes := #[] }, { accessFlags := 1, nameIndex := 27, descriptorIndex := 69, attributes := #[] }, { accessFlags := 1, nameIndex := 30, descriptorIndex := 70, attributes := #[] }, { accessFlags := 1, nameIndex := 34, descriptorIndex := 68, attributes := #[] }] 49 2 #[] #[{ accessFlags := 18, nameIndex := 11, descriptorIndex := 12, attributes := #[] }, { accessFlags := 18, nameIndex := 15, descriptorIndex := 16, attributes := #[] }, { accessFlags := 18, nameIndex := 19, descriptorIndex := 20, attributes := #[] }, { accessFlags := 18, nameIndex := 23, descriptorIndex := 24, attributes := #[] }, { accessFlags := 18, nameIndex := 27, descriptorIndex := 24, attributes := #[] }, { accessFlags := 18, nameIndex := 30, descriptorIndex := 31, attributes := #[] }, { accessFlags := 18, nameIndex := 34, descriptorIndex := 20, attributes := #[] }])
  fields := #[{ name := "name", type := (.object "java/lang/String"), accessFlags := 18, slot := 0, constantValue := 0 }, { name := "type", type := (.object "com/example/sluicegate/sluicegate/job/MetricReport$Type"), accessFlags := 18, slot := 1, constantValue := 0 }, { name := "count", type := .long, accessFlags := 18, slot := 2, constantValue := 0 }, { name := "mean", type := (.object "java/time/Duration"), accessFlags := 18, slot := 3, constantValue := 0 }, { name := "max", type := (.object "java/time/Duration"), accessFlags := 18, slot := 4, constantValue := 0 }, { name := "tags", type := (.object "java/util/Map"), accessFlags := 18, slot := 5, constantValue := 0 }, { name := "timestamp", type := .long, accessFlags := 18, slot := 6, constantValue := 0 }]
  methods := #[k9m0, k9m1, k9m2, k9m3, k9m4, k9m5, k9m6, k9m7, k9m8, k9m9]
  instanceTypes := #[(.object "java/lang/String"), (.object "com/example/sluicegate/sluicegate/job/MetricReport$Type"), .long, (.object "java/time/Duration"), (.object "java/time/Duration"), (.object "java/util/Map"), .long]
  staticTypes := #[]
  resolved := Array.replicate 77 none
  statics := none }

def pool10 : Array CpInfo := pool [(2, .class_ 4), (1, u "java/lang/Enum"), (0, u "name"), (0, u "Ljava/lang/String;"), (2, u "ordinal"), (0, u "I"), (1, .class_ 14), (1, u "java/lang/Object"), (4, u "hash"), (86, .class_ 108), (1, u "java/lang/Enum$EnumDesc"), (2, .class_ 112), (0, u "java/lang/constant/Constable"), (0, .class_ 114), (0, u "java/lang/Comparable"), (0, .class_ 116), (0, u "java/io/Serializable")] 87

/-- java/lang/Enum -/
def k10 : Class := { plain "java/lang/Enum" (some 0) with
  accessFlags := 1057
  interfaces := #[5, 3, 2]
  cf := some (fileOf pool10 2 #[.nestMembers #[106]] #[] 1057 12 #[111, 113, 115] #[{ accessFlags := 18, nameIndex := 5, descriptorIndex := 6, attributes := #[] }, { accessFlags := 18, nameIndex := 9, descriptorIndex := 10, attributes := #[] }, { accessFlags := 2, nameIndex := 19, descriptorIndex := 10, attributes := #[] }])
  fields := #[{ name := "name", type := (.object "java/lang/String"), accessFlags := 18, slot := 0, constantValue := 0 }, { name := "ordinal", type := .int, accessFlags := 18, slot := 1, constantValue := 0 }, { name := "hash", type := .int, accessFlags := 2, slot := 2, constantValue := 0 }]
  methods := #[]
  instanceTypes := #[(.object "java/lang/String"), .int, .int]
  staticTypes := #[]
  resolved := Array.replicate 204 none
  statics := none }

def pool11 : Array CpInfo := pool [(1, .class_ 2), (0, u "com/example/sluicegate/sluicegate/job/MetricReport$Type"), (2, u "COUNTER"), (0, u "Lcom/example/sluicegate/sluicegate/job/MetricReport$Type;"), (2, u "METER"), (2, u "TIMER"), (2, u "$VALUES"), (0, u "[Lcom/example/sluicegate/sluicegate/job/MetricReport$Type;"), (6, .class_ 25), (1, u "java/lang/Enum"), (26, .class_ 53), (0, u "com/example/sluicegate/sluicegate/job/MetricReport")] 2

/-- com/example/sluicegate/sluicegate/job/MetricReport$Type -/
def k11 : Class := { plain "com/example/sluicegate/sluicegate/job/MetricReport$Type" (some 10) with
  accessFlags := 16433
  interfaces := #[]
  cf := some (fileOf pool11 1 #[.nestHost 52] #[] 16433 23 #[] #[{ accessFlags := 16409, nameIndex := 5, descriptorIndex := 6, attributes := #[] }, { accessFlags := 16409, nameIndex := 9, descriptorIndex := 6, attributes := #[] }, { accessFlags := 16409, nameIndex := 12, descriptorIndex := 6, attributes := #[] }, { accessFlags := 4122, nameIndex := 15, descriptorIndex := 16, attributes := #[] }])
  fields := #[{ name := "COUNTER", type := (.object "com/example/sluicegate/sluicegate/job/MetricReport$Type"), accessFlags := 16409, slot := 0, constantValue := 0 }, { name := "METER", type := (.object "com/example/sluicegate/sluicegate/job/MetricReport$Type"), accessFlags := 16409, slot := 1, constantValue := 0 }, { name := "TIMER", type := (.object "com/example/sluicegate/sluicegate/job/MetricReport$Type"), accessFlags := 16409, slot := 2, constantValue := 0 }, { name := "$VALUES", type := (.array (.object "com/example/sluicegate/sluicegate/job/MetricReport$Type")), accessFlags := 4122, slot := 3, constantValue := 0 }]
  methods := #[]
  instanceTypes := #[(.object "java/lang/String"), .int, .int]
  staticTypes := #[(.object "com/example/sluicegate/sluicegate/job/MetricReport$Type"), (.object "com/example/sluicegate/sluicegate/job/MetricReport$Type"), (.object "com/example/sluicegate/sluicegate/job/MetricReport$Type"), (.array (.object "com/example/sluicegate/sluicegate/job/MetricReport$Type"))]
  resolved := Array.replicate 56 none
  statics := some 1 }

def pool12 : Array CpInfo := pool [(1, .class_ 2), (0, u "java/time/temporal/TemporalAmount"), (0, .class_ 4), (0, u "java/lang/Object")] 11

/-- java/time/temporal/TemporalAmount -/
def k12 : Class := { plain "java/time/temporal/TemporalAmount" (some 0) with
  accessFlags := 1537
  interfaces := #[]
  cf := some (fileOf pool12 1 #[] #[] 1537 3 #[] #[])
  fields := #[]
  methods := #[]
  instanceTypes := #[]
  staticTypes := #[]
  resolved := Array.replicate 16 none
  statics := none }

def pool13 : Array CpInfo := pool [(11, .class_ 13), (1, u "java/time/Duration"), (20, u "ZERO"), (0, u "Ljava/time/Duration;"), (13, .class_ 51), (1, u "java/time/temporal/TemporalAmount"), (27, .class_ 81), (1, u "java/time/Duration$Lazy"), (35, u "seconds"), (101, .class_ 220), (0, u "java/lang/Object"), (2, u "J"), (2, u "nanos"), (0, u "I"), (11, .class_ 241), (1, u "java/time/Duration$DurationUnits"), (27, .class_ 271), (1, u "java/time/Duration$1"), (91, u "BI_NANOS_PER_SECOND"), (0, u "Ljava/math/BigInteger;"), (120, .class_ 486), (0, u "java/lang/Comparable"), (0, .class_ 488), (0, u "java/io/Serializable"), (0, u "serialVersionUID")] 166

/-- java/time/Duration -/
def k13 : Class := { plain "java/time/Duration" (some 0) with
  accessFlags := 49
  interfaces := #[12, 3, 2]
  cf := some (fileOf pool13 11 #[.nestMembers #[269, 239, 79]] #[] 49 219 #[49, 485, 487] #[{ accessFlags := 25, nameIndex := 34, descriptorIndex := 35, attributes := #[] }, { accessFlags := 26, nameIndex := 489, descriptorIndex := 223, attributes := #[] }, { accessFlags := 26, nameIndex := 363, descriptorIndex := 364, attributes := #[] }, { accessFlags := 18, nameIndex := 117, descriptorIndex := 223, attributes := #[] }, { accessFlags := 18, nameIndex := 226, descriptorIndex := 227, attributes := #[] }])
  fields := #[{ name := "ZERO", type := (.object "java/time/Duration"), accessFlags := 25, slot := 0, constantValue := 0 }, { name := "serialVersionUID", type := .long, accessFlags := 26, slot := 1, constantValue := 0 }, { name := "BI_NANOS_PER_SECOND", type := (.object "java/math/BigInteger"), accessFlags := 26, slot := 2, constantValue := 0 }, { name := "seconds", type := .long, accessFlags := 18, slot := 0, constantValue := 0 }, { name := "nanos", type := .int, accessFlags := 18, slot := 1, constantValue := 0 }]
  methods := #[]
  instanceTypes := #[.long, .int]
  staticTypes := #[(.object "java/time/Duration"), .long, (.object "java/math/BigInteger")]
  resolved := Array.replicate 656 none
  statics := some 2 }

def pool14 : Array CpInfo := pool [(4, .class_ 6), (1, u "java/lang/Object"), (0, u "<init>"), (0, u "()V"), (5, .class_ 16), (1, u "java/lang/StringLatin1"), (104, u "$assertionsDisabled"), (0, u "Z"), (98, .class_ 223), (1, u "java/lang/StringLatin1$LinesSpliterator"), (166, .class_ 391), (0, u "java/lang/StringLatin1$CharsSpliterator")] 3

def k14m0 : Method := { name := "<init>", desc := "()V", sig := { parameters := [], returnType := none }, accessFlags := 0, code := none }
/-- java/lang/StringLatin1 -/
def k14 : Class := { plain "java/lang/StringLatin1" (some 0) with
  accessFlags := 48
  interfaces := #[]
  cf := some (fileOf pool14 14 #[.nestMembers #[390, 221]] #[{ accessFlags := 0, nameIndex := 7, descriptorIndex := 8, attributes := #[] }] 48 4 #[] #[{ accessFlags := 4120, nameIndex := 121, descriptorIndex := 122, attributes := #[] }])
  fields := #[{ name := "$assertionsDisabled", type := .boolean, accessFlags := 4120, slot := 0, constantValue := 0 }]
  methods := #[k14m0]
  instanceTypes := #[]
  staticTypes := #[.boolean]
  resolved := Array.replicate 395 none
  statics := none }

def pool15 : Array CpInfo := pool [(2, .class_ 4), (1, u "java/lang/Object"), (0, u "<init>"), (0, u "()V"), (17, .class_ 26), (1, u "jdk/internal/util/Preconditions"), (28, .class_ 56), (0, u "jdk/internal/util/Preconditions$4"), (57, .class_ 115), (0, u "jdk/internal/util/Preconditions$1"), (7, u "SIOOBE_FORMATTER"), (0, u "Ljava/util/function/BiFunction;"), (0, .class_ 126), (0, u "jdk/internal/util/Preconditions$2"), (3, u "AIOOBE_FORMATTER"), (0, .class_ 132), (0, u "jdk/internal/util/Preconditions$3"), (3, u "IOOBE_FORMATTER")] 57

def k15m0 : Method := { name := "<init>", desc := "()V", sig := { parameters := [], returnType := none }, accessFlags := 1, code := none }
/-- jdk/internal/util/Preconditions -/
def k15 : Class := { plain "jdk/internal/util/Preconditions" (some 0) with
  accessFlags := 33
  interfaces := #[]
  cf := some (fileOf pool15 24 #[.nestMembers #[55, 131, 125, 114]] #[{ accessFlags := 1, nameIndex := 5, descriptorIndex := 6, attributes := #[] }] 33 2 #[] #[{ accessFlags := 25, nameIndex := 123, descriptorIndex := 124, attributes := #[] }, { accessFlags := 25, nameIndex := 130, descriptorIndex := 124, attributes := #[] }, { accessFlags := 25, nameIndex := 136, descriptorIndex := 124, attributes := #[] }])
  fields := #[{ name := "SIOOBE_FORMATTER", type := (.object "java/util/function/BiFunction"), accessFlags := 25, slot := 0, constantValue := 0 }, { name := "AIOOBE_FORMATTER", type := (.object "java/util/function/BiFunction"), accessFlags := 25, slot := 1, constantValue := 0 }, { name := "IOOBE_FORMATTER", type := (.object "java/util/function/BiFunction"), accessFlags := 25, slot := 2, constantValue := 0 }]
  methods := #[k15m0]
  instanceTypes := #[]
  staticTypes := #[(.object "java/util/function/BiFunction"), (.object "java/util/function/BiFunction"), (.object "java/util/function/BiFunction")]
  resolved := Array.replicate 194 none
  statics := some 3 }

def pool16 : Array CpInfo := pool [(9, u "<init>"), (6, .class_ 18), (1, u "java/lang/Object"), (0, u "()V"), (1, .class_ 23), (1, u "jdk/internal/util/ArraysSupport"), (0, u "LOG2_ARRAY_LONG_INDEX_SCALE"), (0, u "I"), (2, u "U"), (0, u "Ljdk/internal/misc/Unsafe;"), (8, u "BIG_ENDIAN"), (0, u "Z"), (8, u "LOG2_BYTE_BIT_SIZE"), (4, u "LOG2_ARRAY_INT_INDEX_SCALE"), (54, u "JLA"), (0, u "Ljdk/internal/access/JavaLangAccess;"), (11, u "LOG2_ARRAY_BOOLEAN_INDEX_SCALE"), (9, u "LOG2_ARRAY_BYTE_INDEX_SCALE"), (5, u "LOG2_ARRAY_CHAR_INDEX_SCALE"), (5, u "LOG2_ARRAY_SHORT_INDEX_SCALE"), (18, u "LOG2_ARRAY_FLOAT_INDEX_SCALE"), (24, u "LOG2_ARRAY_DOUBLE_INDEX_SCALE"), (89, u "T_BOOLEAN"), (2, u "T_CHAR"), (1, u "T_FLOAT"), (1, u "T_DOUBLE"), (1, u "T_BYTE"), (1, u "T_SHORT"), (1, u "T_INT"), (1, u "T_LONG"), (1, u "SOFT_MAX_ARRAY_LENGTH")] 83

def k16m0 : Method := { name := "<init>", desc := "()V", sig := { parameters := [], returnType := none }, accessFlags := 2, code := none }
/-- jdk/internal/util/ArraysSupport -/
def k16 : Class := { plain "jdk/internal/util/ArraysSupport" (some 0) with
  accessFlags := 33
  interfaces := #[]
  cf := some (fileOf pool16 21 #[] #[{ accessFlags := 2, nameIndex := 9, descriptorIndex := 19, attributes := #[] }] 33 16 #[] #[{ accessFlags := 24, nameIndex := 28, descriptorIndex := 29, attributes := #[] }, { accessFlags := 26, nameIndex := 38, descriptorIndex := 39, attributes := #[] }, { accessFlags := 25, nameIndex := 121, descriptorIndex := 25, attributes := #[] }, { accessFlags := 25, nameIndex := 131, descriptorIndex := 25, attributes := #[] }, { accessFlags := 25, nameIndex := 137, descriptorIndex := 25, attributes := #[] }, { accessFlags := 25, nameIndex := 143, descriptorIndex := 25, attributes := #[] }, { accessFlags := 25, nameIndex := 53, descriptorIndex := 25, attributes := #[] }, { accessFlags := 25, nameIndex := 24, descriptorIndex := 25, attributes := #[] }, { accessFlags := 25, nameIndex := 162, descriptorIndex := 25, attributes := #[] }, { accessFlags := 25, nameIndex := 187, descriptorIndex := 25, attributes := #[] }, { accessFlags := 26, nameIndex := 48, descriptorIndex := 25, attributes := #[] }, { accessFlags := 25, nameIndex := 277, descriptorIndex := 25, attributes := #[] }, { accessFlags := 25, nameIndex := 280, descriptorIndex := 25, attributes := #[] }, { accessFlags := 25, nameIndex := 282, descriptorIndex := 25, attributes := #[] }, { accessFlags := 25, nameIndex := 284, descriptorIndex := 25, attributes := #[] }, { accessFlags := 25, nameIndex := 286, descriptorIndex := 25, attributes := #[] }, { accessFlags := 25, nameIndex := 288, descriptorIndex := 25, attributes := #[] }, { accessFlags := 25, nameIndex := 290, descriptorIndex := 25, attributes := #[] }, { accessFlags := 25, nameIndex := 292, descriptorIndex := 25, attributes := #[] }, { accessFlags := 26, nameIndex := 108, descriptorIndex := 109, attributes := #[] }, { accessFlags := 25, nameIndex := 294, descriptorIndex := 25, attributes := #[] }])
  fields := #[{ name := "U", type := (.object "jdk/internal/misc/Unsafe"), accessFlags := 24, slot := 0, constantValue := 0 }, { name := "BIG_ENDIAN", type := .boolean, accessFlags := 26, slot := 1, constantValue := 0 }, { name := "LOG2_ARRAY_BOOLEAN_INDEX_SCALE", type := .int, accessFlags := 25, slot := 2, constantValue := 0 }, { name := "LOG2_ARRAY_BYTE_INDEX_SCALE", type := .int, accessFlags := 25, slot := 3, constantValue := 0 }, { name := "LOG2_ARRAY_CHAR_INDEX_SCALE", type := .int, accessFlags := 25, slot := 4, constantValue := 0 }, { name := "LOG2_ARRAY_SHORT_INDEX_SCALE", type := .int, accessFlags := 25, slot := 5, constantValue := 0 }, { name := "LOG2_ARRAY_INT_INDEX_SCALE", type := .int, accessFlags := 25, slot := 6, constantValue := 0 }, { name := "LOG2_ARRAY_LONG_INDEX_SCALE", type := .int, accessFlags := 25, slot := 7, constantValue := 0 }, { name := "LOG2_ARRAY_FLOAT_INDEX_SCALE", type := .int, accessFlags := 25, slot := 8, constantValue := 0 }, { name := "LOG2_ARRAY_DOUBLE_INDEX_SCALE", type := .int, accessFlags := 25, slot := 9, constantValue := 0 }, { name := "LOG2_BYTE_BIT_SIZE", type := .int, accessFlags := 26, slot := 10, constantValue := 0 }, { name := "T_BOOLEAN", type := .int, accessFlags := 25, slot := 11, constantValue := 0 }, { name := "T_CHAR", type := .int, accessFlags := 25, slot := 12, constantValue := 0 }, { name := "T_FLOAT", type := .int, accessFlags := 25, slot := 13, constantValue := 0 }, { name := "T_DOUBLE", type := .int, accessFlags := 25, slot := 14, constantValue := 0 }, { name := "T_BYTE", type := .int, accessFlags := 25, slot := 15, constantValue := 0 }, { name := "T_SHORT", type := .int, accessFlags := 25, slot := 16, constantValue := 0 }, { name := "T_INT", type := .int, accessFlags := 25, slot := 17, constantValue := 0 }, { name := "T_LONG", type := .int, accessFlags := 25, slot := 18, constantValue := 0 }, { name := "JLA", type := (.object "jdk/internal/access/JavaLangAccess"), accessFlags := 26, slot := 19, constantValue := 0 }, { name := "SOFT_MAX_ARRAY_LENGTH", type := .int, accessFlags := 25, slot := 20, constantValue := 0 }]
  methods := #[k16m0]
  instanceTypes := #[]
  staticTypes := #[(.object "jdk/internal/misc/Unsafe"), .boolean, .int, .int, .int, .int, .int, .int, .int, .int, .int, .int, .int, .int, .int, .int, .int, .int, .int, (.object "jdk/internal/access/JavaLangAccess"), .int]
  resolved := Array.replicate 378 none
  statics := none }

def pool17 : Array CpInfo := pool [(1, u "java/lang/Cloneable"), (0, .class_ 1), (0, u "java/lang/Object"), (0, .class_ 3)] 3

/-- java/lang/Cloneable -/
def k17 : Class := { plain "java/lang/Cloneable" (some 0) with
  accessFlags := 1537
  interfaces := #[]
  cf := some (fileOf pool17 2 #[] #[] 1537 4 #[] #[])
  fields := #[]
  methods := #[]
  instanceTypes := #[]
  staticTypes := #[]
  resolved := Array.replicate 8 none
  statics := none }

/-- the primitive byte -/
def k18 : Class := { plain "byte" none with kind := .primitive 'B', accessFlags := 0x411 }
/-- [B -/
def k19 : Class := { plain "[B" (some 0) with kind := .array 18 .byte, interfaces := #[17, 2], accessFlags := 1041 }

/-- the primitive char -/
def k20 : Class := { plain "char" none with kind := .primitive 'C', accessFlags := 0x411 }
/-- [C -/
def k21 : Class := { plain "[C" (some 0) with kind := .array 20 .char, interfaces := #[17, 2], accessFlags := 1041 }

/-- the primitive int -/
def k22 : Class := { plain "int" none with kind := .primitive 'I', accessFlags := 0x411 }
/-- [I -/
def k23 : Class := { plain "[I" (some 0) with kind := .array 22 .int, interfaces := #[17, 2], accessFlags := 1041 }

def heap : Heap := #[{ cls := 7, slots := #[.long 0, .int 1, .null, .int 0, .null, .int 0, .int 0], vm := .statics 7 },
  { cls := 11, slots := #[.ref 4, .ref 5, .null, .null], vm := .statics 11 },
  { cls := 13, slots := #[.ref 6, .long 0, .null], vm := .statics 13 },
  { cls := 15, slots := #[.null, .null, .null], vm := .statics 15 },
  { cls := 11, slots := #[.null, .int 0, .int 0], vm := .none },
  { cls := 11, slots := #[.null, .int 1, .int 0], vm := .none },
  { cls := 13, slots := #[.long 0, .int 0], vm := .none }]
def classes : Array Class := #[k0, k1, k2, k3, k4, k5, k6, k7, k8, k9, k10, k11, k12, k13, k14, k15, k16, k17, k18, k19, k20, k21, k22, k23]
def interned : List (Array UInt16 × Addr) := []
def slotsUsed : Nat := 25
def theMethod : MethodId := ⟨1, 1⟩
def args0 : Array Value := #[.int 5, .int 6, .long 7, .long 8]
def aboutOver (below : List Frame) : State where
  vm := { classes := classes, interned := interned.toArray }
  heap := heap
  slotsUsed := slotsUsed
  threads := #[{ frames := .invoking theMethod args0 :: below }]
def below0 : List Frame := [.native { method := ⟨0, 0⟩, args := #[] }]
def about1 : State := aboutOver below0
def p0 : Program := .bare "" "" ""
def e0 : Env := launch0.env 0 0 0
theorem w_frames : about1.frames = Frame.invoking theMethod args0 :: below0 := rfl
set_option maxRecDepth 65536 in
theorem w_args : argsFit about1.vm theMethod args0 = true := by decide +kernel
set_option maxRecDepth 65536 in
theorem w_heap : heapFits about1 = true := by decide +kernel
set_option maxRecDepth 65536 in
theorem w_runnable : about1.curStatus? = some .runnable := by decide +kernel
set_option maxRecDepth 65536 in
theorem w_alone : about1.alone = true := by decide +kernel
set_option maxRecDepth 65536 in
theorem w_named : about1.methodNamed? x = some theMethod := by decide +kernel
set_option maxRecDepth 65536 in
theorem w_hears : about1.hears theMethod below0 = true := by decide +kernel
set_option maxRecDepth 65536 in
theorem w_ripe : about1.ripe theMethod args0 below0 = true := by decide +kernel
theorem w_running : about1.status = .running := rfl
set_option maxRecDepth 65536 in
theorem w_room : about1.hasRoom e0.platform room_1 = true :=
  launch0.hasRoom_least _ room_1 (by decide +kernel) (by decide +kernel) (by decide +kernel) (by decide +kernel) (by decide +kernel) (by decide +kernel)
theorem allAtoms_all (ts : List Jvm.Cond) (a : Array Jvm.Value) (st : Jvm.State) : (allAtoms ts).before a st = ts.all (fun c => c.before a st) := by
  induction ts with
  | nil => rfl
  | cons c t ih =>
    show (Jvm.Cond.and c (allAtoms t)).before a st = _
    rw [Jvm.Cond.before_and, ih, List.all_cons]
def words1 : List Jvm.Cond := Jvm.Cond.code x code maxLocals ret :: tables_1
/-- a 'code' word, met by the world's own term for the bytes: nothing is compared byte by byte -/
theorem code_word {y : MethodName} {bytes : ByteArray} {mx : Nat} {rt : Option FieldType} {a : Array Value} {s : State} {m : MethodId} {meth : Method} {c : Code} (h1 : s.methodNamed? y = some m) (h2 : s.vm.method? m = some meth) (h3 : meth.code = some c) (h4 : c.code = bytes)
    (h5 : (c.maxLocals == mx && c.exceptionTable.isEmpty && decide (c.maxStack ≤ mostOperands) && decide (meth.sig.returnType = rt) && !meth.locks && decide (parseMethodDescriptor y.desc = some meth.sig)) = true) : (Jvm.Cond.code y bytes mx rt).before a s = true := by
  simp only [Bool.and_eq_true, beq_iff_eq, Bool.not_eq_true', decide_eq_true_eq] at h5
  obtain ⟨⟨⟨⟨⟨g1, g2⟩, g3⟩, g4⟩, g5⟩, g6⟩ := h5
  simp [Cond.before, Cond.holds, Cond.value, h1, h2, h3, h4, g1, g2, g3, g4, g5, g6]
def isCode : Jvm.Cond → Bool
  | .code _ _ _ _ => true
  | _ => false
theorem all_split {L : List Jvm.Cond} {P : Jvm.Cond → Bool} (h1 : L.all (fun c => isCode c || P c) = true) (h2 : ∀ c ∈ L.filter isCode, P c = true) : L.all P = true := by
  refine List.all_eq_true.mpr fun c hc => ?_
  have h := List.all_eq_true.mp h1 c hc
  rcases Bool.eq_false_or_eq_true (isCode c) with hi | hi
  · exact h2 c (List.mem_filter.mpr ⟨hc, hi⟩)
  · simpa [hi] using h
set_option maxRecDepth 65536 in
theorem w_c0 : (Jvm.Cond.code x code maxLocals ret).before args0 about1 = true := code_word (m := ⟨1, 1⟩) (meth := k1m1) (c := k1c1) (by decide +kernel) rfl rfl rfl (by decide +kernel)
set_option maxRecDepth 65536 in
theorem w_c1 : (Jvm.Cond.code ({ cls := "java/lang/String", name := "<init>", desc := "([C)V" } : Jvm.MethodName) jdk_42_method_3_code (2 : Nat) (Option.none : Option Jvm.ClassFile.FieldType)).before args0 about1 = true := code_word (m := ⟨7, 1⟩) (meth := k7m1) (c := k7c1) (by decide +kernel) rfl rfl rfl (by decide +kernel)
set_option maxRecDepth 65536 in
theorem w_c2 : (Jvm.Cond.code ({ cls := "java/lang/String", name := "<init>", desc := "([CIILjava/lang/Void;)V" } : Jvm.MethodName) jdk_42_method_149_code (6 : Nat) (Option.none : Option Jvm.ClassFile.FieldType)).before args0 about1 = true := code_word (m := ⟨7, 3⟩) (meth := k7m3) (c := k7c3) (by decide +kernel) rfl rfl rfl (by decide +kernel)
set_option maxRecDepth 65536 in
theorem w_c3 : (Jvm.Cond.code ({ cls := "java/lang/Object", name := "<init>", desc := "()V" } : Jvm.MethodName) object_method_1_code (1 : Nat) (Option.none : Option Jvm.ClassFile.FieldType)).before args0 about1 = true := code_word (m := ⟨0, 0⟩) (meth := k0m0) (c := k0c0) (by decide +kernel) rfl rfl rfl (by decide +kernel)
set_option maxRecDepth 65536 in
theorem w_c4 : (Jvm.Cond.code ({ cls := "java/lang/StringUTF16", name := "compress", desc := "([CII)[B" } : Jvm.MethodName) jdk_52_method_16_code (6 : Nat) (Option.some (Jvm.ClassFile.FieldType.array Jvm.ClassFile.FieldType.byte))).before args0 about1 = true := code_word (m := ⟨8, 2⟩) (meth := k8m2) (c := k8c2) (by decide +kernel) rfl rfl rfl (by decide +kernel)
set_option maxRecDepth 65536 in
theorem w_c5 : (Jvm.Cond.code ({ cls := "java/lang/StringUTF16", name := "compress", desc := "([CI[BII)I" } : Jvm.MethodName) jdk_52_method_21_code (7 : Nat) (Option.some Jvm.ClassFile.FieldType.int)).before args0 about1 = true := code_word (m := ⟨8, 3⟩) (meth := k8m3) (c := k8c3) (by decide +kernel) rfl rfl rfl (by decide +kernel)
set_option maxRecDepth 65536 in
theorem w_c6 : (Jvm.Cond.code ({ cls := "java/lang/StringUTF16", name := "coderFromArrayLen", desc := "([BI)B" } : Jvm.MethodName) jdk_52_method_15_code (2 : Nat) (Option.some Jvm.ClassFile.FieldType.byte)).before args0 about1 = true := code_word (m := ⟨8, 1⟩) (meth := k8m1) (c := k8c1) (by decide +kernel) rfl rfl rfl (by decide +kernel)
set_option maxRecDepth 65536 in
theorem w_c7 : (Jvm.Cond.code ({ cls := "com/example/sluicegate/sluicegate/job/MetricReport", name := "meter", desc := "(Ljava/lang/String;JLjava/util/Map;J)Lcom/example/sluicegate/sluicegate/job/MetricReport;" } : Jvm.MethodName) prog_16_method_3_code (6 : Nat) (Option.some (Jvm.ClassFile.FieldType.object "com/example/sluicegate/sluicegate/job/MetricReport"))).before args0 about1 = true := code_word (m := ⟨9, 2⟩) (meth := k9m2) (c := k9c2) (by decide +kernel) rfl rfl rfl (by decide +kernel)
set_option maxRecDepth 65536 in
theorem w_c8 : (Jvm.Cond.code ({ cls := "com/example/sluicegate/sluicegate/job/MetricReport", name := "<init>", desc := "(Ljava/lang/String;Lcom/example/sluicegate/sluicegate/job/MetricReport$Type;JLjava/time/Duration;Ljava/time/Duration;Ljava/util/Map;J)V" } : Jvm.MethodName) prog_16_method_1_code (10 : Nat) (Option.none : Option Jvm.ClassFile.FieldType)).before args0 about1 = true := code_word (m := ⟨9, 0⟩) (meth := k9m0) (c := k9c0) (by decide +kernel) rfl rfl rfl (by decide +kernel)
set_option maxRecDepth 65536 in
theorem w_c9 : (Jvm.Cond.code ({ cls := "com/example/sluicegate/sluicegate/job/MetricReport", name := "counter", desc := "(Ljava/lang/String;JLjava/util/Map;J)Lcom/example/sluicegate/sluicegate/job/MetricReport;" } : Jvm.MethodName) prog_16_method_2_code (6 : Nat) (Option.some (Jvm.ClassFile.FieldType.object "com/example/sluicegate/sluicegate/job/MetricReport"))).before args0 about1 = true := code_word (m := ⟨9, 1⟩) (meth := k9m1) (c := k9c1) (by decide +kernel) rfl rfl rfl (by decide +kernel)
set_option maxRecDepth 65536 in
theorem w_c10 : (Jvm.Cond.code ({ cls := "com/example/sluicegate/sluicegate/job/MetricReport", name := "name", desc := "()Ljava/lang/String;" } : Jvm.MethodName) prog_16_method_5_code (1 : Nat) (Option.some (Jvm.ClassFile.FieldType.object "java/lang/String"))).before args0 about1 = true := code_word (m := ⟨9, 3⟩) (meth := k9m3) (c := k9c3) (by decide +kernel) rfl rfl rfl (by decide +kernel)
set_option maxRecDepth 65536 in
theorem w_c11 : (Jvm.Cond.code ({ cls := "java/lang/String", name := "equals", desc := "(Ljava/lang/Object;)Z" } : Jvm.MethodName) jdk_42_method_66_code (3 : Nat) (Option.some Jvm.ClassFile.FieldType.boolean)).before args0 about1 = true := code_word (m := ⟨7, 2⟩) (meth := k7m2) (c := k7c2) (by decide +kernel) rfl rfl rfl (by decide +kernel)
set_option maxRecDepth 65536 in
theorem w_c12 : (Jvm.Cond.code ({ cls := "com/example/sluicegate/sluicegate/job/MetricReport", name := "type", desc := "()Lcom/example/sluicegate/sluicegate/job/MetricReport$Type;" } : Jvm.MethodName) prog_16_method_6_code (1 : Nat) (Option.some (Jvm.ClassFile.FieldType.object "com/example/sluicegate/sluicegate/job/MetricReport$Type"))).before args0 about1 = true := code_word (m := ⟨9, 4⟩) (meth := k9m4) (c := k9c4) (by decide +kernel) rfl rfl rfl (by decide +kernel)
set_option maxRecDepth 65536 in
theorem w_c13 : (Jvm.Cond.code ({ cls := "com/example/sluicegate/sluicegate/job/MetricReport", name := "count", desc := "()J" } : Jvm.MethodName) prog_16_method_7_code (1 : Nat) (Option.some Jvm.ClassFile.FieldType.long)).before args0 about1 = true := code_word (m := ⟨9, 5⟩) (meth := k9m5) (c := k9c5) (by decide +kernel) rfl rfl rfl (by decide +kernel)
set_option maxRecDepth 65536 in
theorem w_c14 : (Jvm.Cond.code ({ cls := "com/example/sluicegate/sluicegate/job/MetricReport", name := "timestamp", desc := "()J" } : Jvm.MethodName) prog_16_method_11_code (1 : Nat) (Option.some Jvm.ClassFile.FieldType.long)).before args0 about1 = true := code_word (m := ⟨9, 9⟩) (meth := k9m9) (c := k9c9) (by decide +kernel) rfl rfl rfl (by decide +kernel)
set_option maxRecDepth 65536 in
theorem w_c15 : (Jvm.Cond.code ({ cls := "com/example/sluicegate/sluicegate/job/MetricReport", name := "tags", desc := "()Ljava/util/Map;" } : Jvm.MethodName) prog_16_method_10_code (1 : Nat) (Option.some (Jvm.ClassFile.FieldType.object "java/util/Map"))).before args0 about1 = true := code_word (m := ⟨9, 8⟩) (meth := k9m8) (c := k9c8) (by decide +kernel) rfl rfl rfl (by decide +kernel)
set_option maxRecDepth 65536 in
theorem w_c16 : (Jvm.Cond.code ({ cls := "com/example/sluicegate/sluicegate/job/MetricReport", name := "mean", desc := "()Ljava/time/Duration;" } : Jvm.MethodName) prog_16_method_8_code (1 : Nat) (Option.some (Jvm.ClassFile.FieldType.object "java/time/Duration"))).before args0 about1 = true := code_word (m := ⟨9, 6⟩) (meth := k9m6) (c := k9c6) (by decide +kernel) rfl rfl rfl (by decide +kernel)
set_option maxRecDepth 65536 in
theorem w_c17 : (Jvm.Cond.code ({ cls := "com/example/sluicegate/sluicegate/job/MetricReport", name := "max", desc := "()Ljava/time/Duration;" } : Jvm.MethodName) prog_16_method_9_code (1 : Nat) (Option.some (Jvm.ClassFile.FieldType.object "java/time/Duration"))).before args0 about1 = true := code_word (m := ⟨9, 7⟩) (meth := k9m7) (c := k9c7) (by decide +kernel) rfl rfl rfl (by decide +kernel)
def codes1 : List Jvm.Cond := [Jvm.Cond.code x code maxLocals ret, Jvm.Cond.code ({ cls := "java/lang/String", name := "<init>", desc := "([C)V" } : Jvm.MethodName) jdk_42_method_3_code (2 : Nat) (Option.none : Option Jvm.ClassFile.FieldType), Jvm.Cond.code ({ cls := "java/lang/String", name := "<init>", desc := "([CIILjava/lang/Void;)V" } : Jvm.MethodName) jdk_42_method_149_code (6 : Nat) (Option.none : Option Jvm.ClassFile.FieldType), Jvm.Cond.code ({ cls := "java/lang/Object", name := "<init>", desc := "()V" } : Jvm.MethodName) object_method_1_code (1 : Nat) (Option.none : Option Jvm.ClassFile.FieldType), Jvm.Cond.code ({ cls := "java/lang/StringUTF16", name := "compress", desc := "([CII)[B" } : Jvm.MethodName) jdk_52_method_16_code (6 : Nat) (Option.some (Jvm.ClassFile.FieldType.array Jvm.ClassFile.FieldType.byte)), Jvm.Cond.code ({ cls := "java/lang/StringUTF16", name := "compress", desc := "([CI[BII)I" } : Jvm.MethodName) jdk_52_method_21_code (7 : Nat) (Option.some Jvm.ClassFile.FieldType.int), Jvm.Cond.code ({ cls := "java/lang/StringUTF16", name := "coderFromArrayLen", desc := "([BI)B" } : Jvm.MethodName) jdk_52_method_15_code (2 : Nat) (Option.some Jvm.ClassFile.FieldType.byte), Jvm.Cond.code ({ cls := "com/example/sluicegate/sluicegate/job/MetricReport", name := "meter", desc := "(Ljava/lang/String;JLjava/util/Map;J)Lcom/example/sluicegate/sluicegate/job/MetricReport;" } : Jvm.MethodName) prog_16_method_3_code (6 : Nat) (Option.some (Jvm.ClassFile.FieldType.object "com/example/sluicegate/sluicegate/job/MetricReport")), Jvm.Cond.code ({ cls := "com/example/sluicegate/sluicegate/job/MetricReport", name := "<init>", desc := "(Ljava/lang/String;Lcom/example/sluicegate/sluicegate/job/MetricReport$Type;JLjava/time/Duration;Ljava/time/Duration;Ljava/util/Map;J)V" } : Jvm.MethodName) prog_16_method_1_code (10 : Nat) (Option.none : Option Jvm.ClassFile.FieldType), Jvm.Cond.code ({ cls := "com/example/sluicegate/sluicegate/job/MetricReport", name := "counter", desc := "(Ljava/lang/String;JLjava/util/Map;J)Lcom/example/sluicegate/sluicegate/job/MetricReport;" } : Jvm.MethodName) prog_16_method_2_code (6 : Nat) (Option.some (Jvm.ClassFile.FieldType.object "com/example/sluicegate/sluicegate/job/MetricReport")), Jvm.Cond.code ({ cls := "com/example/sluicegate/sluicegate/job/MetricReport", name := "name", desc := "()Ljava/lang/String;" } : Jvm.MethodName) prog_16_method_5_code (1 : Nat) (Option.some (Jvm.ClassFile.FieldType.object "java/lang/String")), Jvm.Cond.code ({ cls := "java/lang/String", name := "equals", desc := "(Ljava/lang/Object;)Z" } : Jvm.MethodName) jdk_42_method_66_code (3 : Nat) (Option.some Jvm.ClassFile.FieldType.boolean), Jvm.Cond.code ({ cls := "com/example/sluicegate/sluicegate/job/MetricReport", name := "type", desc := "()Lcom/example/sluicegate/sluicegate/job/MetricReport$Type;" } : Jvm.MethodName) prog_16_method_6_code (1 : Nat) (Option.some (Jvm.ClassFile.FieldType.object "com/example/sluicegate/sluicegate/job/MetricReport$Type")), Jvm.Cond.code ({ cls := "com/example/sluicegate/sluicegate/job/MetricReport", name := "count", desc := "()J" } : Jvm.MethodName) prog_16_method_7_code (1 : Nat) (Option.some Jvm.ClassFile.FieldType.long), Jvm.Cond.code ({ cls := "com/example/sluicegate/sluicegate/job/MetricReport", name := "timestamp", desc := "()J" } : Jvm.MethodName) prog_16_method_11_code (1 : Nat) (Option.some Jvm.ClassFile.FieldType.long), Jvm.Cond.code ({ cls := "com/example/sluicegate/sluicegate/job/MetricReport", name := "tags", desc := "()Ljava/util/Map;" } : Jvm.MethodName) prog_16_method_10_code (1 : Nat) (Option.some (Jvm.ClassFile.FieldType.object "java/util/Map")), Jvm.Cond.code ({ cls := "com/example/sluicegate/sluicegate/job/MetricReport", name := "mean", desc := "()Ljava/time/Duration;" } : Jvm.MethodName) prog_16_method_8_code (1 : Nat) (Option.some (Jvm.ClassFile.FieldType.object "java/time/Duration")), Jvm.Cond.code ({ cls := "com/example/sluicegate/sluicegate/job/MetricReport", name := "max", desc := "()Ljava/time/Duration;" } : Jvm.MethodName) prog_16_method_9_code (1 : Nat) (Option.some (Jvm.ClassFile.FieldType.object "java/time/Duration"))]
set_option maxRecDepth 65536 in
theorem codes_eq : words1.filter isCode = codes1 := rfl
theorem w_codes : ∀ c ∈ words1.filter isCode, c.before args0 about1 = true := by
  rw [codes_eq]
  intro c hc
  simp only [codes1, List.mem_cons, List.not_mem_nil, or_false] at hc
  rcases hc with rfl | rfl | rfl | rfl | rfl | rfl | rfl | rfl | rfl | rfl | rfl | rfl | rfl | rfl | rfl | rfl | rfl | rfl
  · exact w_c0
  · exact w_c1
  · exact w_c2
  · exact w_c3
  · exact w_c4
  · exact w_c5
  · exact w_c6
  · exact w_c7
  · exact w_c8
  · exact w_c9
  · exact w_c10
  · exact w_c11
  · exact w_c12
  · exact w_c13
  · exact w_c14
  · exact w_c15
  · exact w_c16
  · exact w_c17
set_option maxRecDepth 65536 in
theorem w_t1 : (words1.take 24).all (fun c => isCode c || c.before args0 about1) = true := by decide +kernel
set_option maxRecDepth 65536 in
theorem w_t2 : ((words1.drop 24).take 24).all (fun c => isCode c || c.before args0 about1) = true := by decide +kernel
set_option maxRecDepth 65536 in
theorem w_t3 : (((words1.drop 24).drop 24).take 24).all (fun c => isCode c || c.before args0 about1) = true := by decide +kernel
set_option maxRecDepth 65536 in
theorem w_t4 : ((((words1.drop 24).drop 24).drop 24).take 24).all (fun c => isCode c || c.before args0 about1) = true := by decide +kernel
set_option maxRecDepth 65536 in
theorem w_t5 : ((((words1.drop 24).drop 24).drop 24).drop 24).all (fun c => isCode c || c.before args0 about1) = true := by decide +kernel
theorem w_tables : (allAtoms (Jvm.Cond.code x code maxLocals ret :: tables_1)).before args0 about1 = true := by
  rw [allAtoms_all]
  show words1.all (fun c => c.before args0 about1) = true
  refine all_split ?_ w_codes
  rw [← List.take_append_drop 24 words1, List.all_append, w_t1, ← List.take_append_drop 24 (words1.drop 24), List.all_append, w_t2, ← List.take_append_drop 24 ((words1.drop 24).drop 24), List.all_append, w_t3, ← List.take_append_drop 24 (((words1.drop 24).drop 24).drop 24), List.all_append, w_t4, w_t5]
  rfl
set_option maxRecDepth 65536 in
theorem w_rest : rest_1_c.before args0 about1 = true := by decide +kernel
set_option maxRecDepth 65536 in
theorem w_case : (Jvm.Cond.and given_1 narrow_1).before args0 about1 = true := by decide +kernel
set_option maxRecDepth 65536 in
theorem w_consts : constsHeld consts_1 about1 := Jvm.Lit.constsHeldB_iff.mp (by decide +kernel)
theorem w_applies : (headSpec (Jvm.Cond.code x code maxLocals ret :: tables_1) room_1).applies x e0.platform about1 = true :=
  (Spec.applies_iff w_frames).mpr ⟨w_running, w_runnable, w_alone, w_named, w_hears, w_ripe, w_room, w_tables⟩
theorem atStart : AtStart classFile x code maxLocals ret World_1 tables_1 room_1 Calls_1 rest_1 Pre_1 launch0 p0 e0 about1 theMethod args0 below0 :=
  ⟨lists_1, trivial, launch0.admits_env _ _ _, launch0.least_env, fairChoices_fair.cas, fairChoices_fair.clock, w_frames, w_args, w_heap, w_applies, ⟨w_consts, trivial⟩, w_rest, w_case⟩
end start1
theorem witness_1 : WitnessClaimed_1 := ⟨start1.p0, start1.e0, start1.about1, start1.theMethod, start1.args0, start1.below0, start1.atStart⟩
end Jvm.Pilot.@@N@@
