import JvmDerived
import JvmDerived.Pilot.@@N@@Statement
import JvmDerived.Pilot.@@N@@Code
set_option linter.unusedVariables false
set_option linter.unusedSimpArgs false
/- laws to paste: Road.backV (cut by pick.py; bodies as the Statement names them) -/
namespace Jvm.Pilot.@@N@@
namespace StrChars
open Jvm Sem ClassFile Op Lib Jvm.Stand Jvm.Free.XT Jvm.Free.ALB Jvm.Free.JM Jvm.Free
open Jvm.Lib.Cold (StaticIs)
/-- a char array whose places are chars -/
def Ch (a : Addr) (A : Cell) (U : State) : Prop := Arr .char a A U ∧ Typed .char A
theorem Ch.mv {a : Addr} {A : Cell} {U U' : State} (h : Ch a A U) (hal : U.vm.Alike U'.vm) (hh : U'.heap = U.heap) : Ch a A U' := ⟨h.1.mv hal hh, h.2⟩
theorem Ch.keep {a : Addr} {A : Cell} {U U' : State} (h : Ch a A U) (hal : U.vm.Alike U'.vm) (hk : U'.heap[a]? = some A) : Ch a A U' := ⟨h.1.keep hal hk, h.2⟩
/-- what place i of a char[]'s cell holds -/
def cv (A : Cell) (i : Nat) : Int32 := match A.slots[i]? with | some (.int x) => x | _ => 0
theorem Ch.get {a : Addr} {A : Cell} {U : State} (h : Ch a A U) {i : Nat} (hi : i < A.slots.size) : A.slots[i]? = some (.int (cv A i)) := by
  have e := Array.getElem?_eq_getElem hi
  have f := h.2 i _ e
  unfold cv; rw [e]
  generalize A.slots[i] = v at f
  cases v <;> simp [fits] at f ⊢
/-- the byte that i2b leaves of a char -/
def lo8 (x : Int32) : Int32 := x.toInt8.toInt32
theorem fits_lo8 (y : Int32) : fits .byte (.int (lo8 y)) = true := by
  have h1 := y.toInt8.le_toInt
  have h2 := y.toInt8.toInt_lt
  simp only [lo8, fits, Bool.and_eq_true, decide_eq_true_eq, Int32.le_iff_toInt_le, Int8.toInt_toInt32, show (-128 : Int32).toInt = -128 from by decide, show (127 : Int32).toInt = 127 from by decide]
  omega
/-- A' is A but that each place j of lo .. hi - 1 holds f j -/
def Laid (A A' : Cell) (lo hi : Nat) (f : Nat → Value) : Prop := A'.cls = A.cls ∧ A'.vm = A.vm ∧ A'.slots.size = A.slots.size ∧ ∀ i, A'.slots[i]? = if lo ≤ i ∧ i < hi then some (f i) else A.slots[i]?
theorem Laid.zero (A : Cell) (lo : Nat) (f : Nat → Value) : Laid A A lo (lo + 0) f := ⟨rfl, rfl, rfl, fun i => by rw [if_neg (by omega)]⟩
theorem Laid.step {A Ak : Cell} {lo k : Nat} {f : Nat → Value} {v : Value} (h : Laid A Ak lo k f) (hlo : lo ≤ k) (hk : k < Ak.slots.size) (hv : v = f k) : Laid A (Ak.setSlot k v) lo (k + 1) f := by
  refine ⟨h.1, h.2.1, by simpa [Cell.setSlot] using h.2.2.1, fun i => ?_⟩
  by_cases e : k = i
  · subst e; rw [Cell.slots_setSlot_self v hk, if_pos (by omega), hv]
  · rw [Cell.slots_setSlot_ne v e, h.2.2.2 i]
    by_cases q : lo ≤ i ∧ i < k
    · rw [if_pos q, if_pos (by omega)]
    · rw [if_neg q, if_neg (by omega)]
def U16 : String := "java/lang/StringUTF16"
namespace Cmp5
def yN : MethodName := ⟨"java/lang/StringUTF16", "compress", "([CI[BII)I"⟩
abbrev yB : ByteArray := jdk_52_method_21_code
theorem d0 : decode yB 0 = .ok (.iconst 0, 1) := by decide +kernel
theorem d1 : decode yB 1 = .ok (.istore 5, 2) := by decide +kernel
theorem d3 : decode yB 3 = .ok (.iload 5, 2) := by decide +kernel
theorem d5 : decode yB 5 = .ok (.iload 4, 2) := by decide +kernel
theorem d7 : decode yB 7 = .ok (.if_icmp (.ge) 37, 3) := by decide +kernel
theorem d10 : decode yB 10 = .ok (.aload_n 0, 1) := by decide +kernel
theorem d11 : decode yB 11 = .ok (.iload_n 1, 1) := by decide +kernel
theorem d12 : decode yB 12 = .ok (.caload, 1) := by decide +kernel
theorem d13 : decode yB 13 = .ok (.istore 6, 2) := by decide +kernel
theorem d15 : decode yB 15 = .ok (.iload 6, 2) := by decide +kernel
theorem d17 : decode yB 17 = .ok (.sipush 255, 3) := by decide +kernel
theorem d20 : decode yB 20 = .ok (.if_icmp (.le) 6, 3) := by decide +kernel
theorem d26 : decode yB 26 = .ok (.aload_n 2, 1) := by decide +kernel
theorem d27 : decode yB 27 = .ok (.iload_n 3, 1) := by decide +kernel
theorem d28 : decode yB 28 = .ok (.iload 6, 2) := by decide +kernel
theorem d30 : decode yB 30 = .ok (.i2b, 1) := by decide +kernel
theorem d31 : decode yB 31 = .ok (.bastore, 1) := by decide +kernel
theorem d32 : decode yB 32 = .ok (.iinc 1 1, 3) := by decide +kernel
theorem d35 : decode yB 35 = .ok (.iinc 3 1, 3) := by decide +kernel
theorem d38 : decode yB 38 = .ok (.iinc 5 1, 3) := by decide +kernel
theorem d41 : decode yB 41 = .ok (.goto (-38), 3) := by decide +kernel
theorem d44 : decode yB 44 = .ok (.iload 4, 2) := by decide +kernel
theorem d46 : decode yB 46 = .ok (.ireturn, 1) := by decide +kernel
def site : List Cond := []
def tab : Cond := tabOf yN yB 7 (some .int) site
def P (b : Addr) (A : Cell) (d : Addr) (B : Cell) (o q len : Nat) (args : Array Value) (s : State) : Prop := args = #[.ref b, .int (Int32.ofNat o), .ref d, .int (Int32.ofNat q), .int (Int32.ofNat len)] ∧ Ch b A s ∧ Arr .byte d B s ∧ b ≠ d ∧ o + len ≤ A.slots.size ∧ q + len ≤ B.slots.size ∧ ∀ i, i < len → ¬ 255 < cv A (o + i)
def E (b : Addr) (A : Cell) (d : Addr) (B : Cell) (o q len : Nat) (r : Option Value) (s u : State) : Prop := r = some (.int (Int32.ofNat len)) ∧ ∃ B', Put d B' s u ∧ Laid B B' q (q + len) (fun j => Value.int (lo8 (cv A (o + (j - q)))))
/-- no char of the range above 255: len; the places written hold each char's low byte -/
theorem law (l : Launch) (b : Addr) (A : Cell) (d : Addr) (B : Cell) (o q len : Nat) : Law l yN 5 5 0 0 yB 7 (some .int) site (P b A d B o q len) (E b A d B o q len) (copyLocs d q len) 0 0 := by
  refine Law.of_walk (plainFor_of_name (by decide +kernel)) (by decide +kernel) (by decide +kernel) (by decide) (fun _ _ h => by rw [h.1]; rfl) (fun _ U U' hal hh h => ⟨h.1, h.2.1.mv hal hh, h.2.2.1.mv hal hh, h.2.2.2⟩) (fun r U U' V V' h1 hal h2 h => ⟨h.1, h.2.elim fun B' q => ⟨B', q.1.mv h1 h2, q.2⟩⟩) ?_
  intro p e s m args below meth c s₁ X0 hexec hbytes hml hret hlk hnm hown hh0 W hP
  obtain ⟨rfl, hA, hB, hne, l1, l2, hp⟩ := hP
  have c1 : Steps p.tables e below (s₁.setTop (entryFrame m #[.ref b, .int (Int32.ofNat o), .ref d, .int (Int32.ofNat q), .int (Int32.ofNat len)] 7)) (s₁.setTop (mkF m 0 #[.val (.ref b), .val (.int (Int32.ofNat o)), .val (.ref d), .val (.int (Int32.ofNat q)), .val (.int (Int32.ofNat len)), .unset, .unset] [])) := entry rfl
  have hA0 := hA.1.mv X0.warmed.alike hh0
  have hB0 := hB.mv X0.warmed.alike hh0
  have a31 := hA.1.2.2.2
  have c2 : Steps p.tables e below (s₁.setTop (entryFrame m #[.ref b, .int (Int32.ofNat o), .ref d, .int (Int32.ofNat q), .int (Int32.ofNat len)] 7)) (s₁.setTop (mkF m 3 #[.val (.ref b), .val (.int (Int32.ofNat o)), .val (.ref d), .val (.int (Int32.ofNat q)), .val (.int (Int32.ofNat len)), .val (.int 0), .unset] [])) := c1.trans (by
    refine iconstV X0.here hexec rfl 0 (hb hbytes d0) (by decide) ?_
    refine XS.istore X0.here hexec rfl (hb hbytes d1) rfl rfl ?_
    exact Steps.refl _)
  have loop : ∀ (r i : Nat), i + r = len → ∀ (z : Slot), (z = .unset ∨ ∃ w, z = .val w ∧ w.category = 1) → ∀ (Tl : State) (Bk : Cell), Stand p l e { frames := 0, locals := 0, cells := 0, slots := 0 } s m #[.ref b, .int (Int32.ofNat o), .ref d, .int (Int32.ofNat q), .int (Int32.ofNat len)] below meth c Tl ([] ++ copyLocs d q i) 0 0 → Put d Bk s₁ Tl → Laid B Bk q (q + i) (fun j => Value.int (lo8 (cv A (o + (j - q))))) →
      Steps p.tables e below (s₁.setTop (entryFrame m #[.ref b, .int (Int32.ofNat o), .ref d, .int (Int32.ofNat q), .int (Int32.ofNat len)] 7)) (Tl.setTop (mkF m 3 #[.val (.ref b), .val (.int (Int32.ofNat (o + i))), .val (.ref d), .val (.int (Int32.ofNat (q + i))), .val (.int (Int32.ofNat len)), .val (.int (Int32.ofNat i)), z] [])) → ∃ (T' : State) (B' : Cell) (z' : Slot), Stand p l e { frames := 0, locals := 0, cells := 0, slots := 0 } s m #[.ref b, .int (Int32.ofNat o), .ref d, .int (Int32.ofNat q), .int (Int32.ofNat len)] below meth c T' ([] ++ copyLocs d q len) 0 0 ∧ Put d B' s₁ T' ∧ Laid B B' q (q + len) (fun j => Value.int (lo8 (cv A (o + (j - q))))) ∧
      Steps p.tables e below (s₁.setTop (entryFrame m #[.ref b, .int (Int32.ofNat o), .ref d, .int (Int32.ofNat q), .int (Int32.ofNat len)] 7)) (T'.setTop (mkF m 3 #[.val (.ref b), .val (.int (Int32.ofNat (o + len))), .val (.ref d), .val (.int (Int32.ofNat (q + len))), .val (.int (Int32.ofNat len)), .val (.int (Int32.ofNat len)), z'] [])) := by
    intro r
    induction r with
    | zero =>
      intro i hi z hz Tl Bk Xl pl fl cl
      have hil : i = len := by omega
      rw [hil] at Xl fl cl
      exact ⟨Tl, Bk, z, Xl, pl, fl, cl⟩
    | succ r ih =>
      intro i hi z hz Tl Bk Xl pl fl cl
      have all := X0.warmed.alike.symm.trans Xl.warmed.alike
      have hAl := hA0.keep all (pl.other hne hA0.1)
      have hBk := hB0.like all pl.1 fl.1 fl.2.1 fl.2.2.1
      have hlt : q + i < Bk.slots.size := by rw [fl.2.2.1]; omega
      have c3 : Steps p.tables e below (s₁.setTop (entryFrame m #[.ref b, .int (Int32.ofNat o), .ref d, .int (Int32.ofNat q), .int (Int32.ofNat len)] 7)) (Tl.setTop (mkF m 12 #[.val (.ref b), .val (.int (Int32.ofNat (o + i))), .val (.ref d), .val (.int (Int32.ofNat (q + i))), .val (.int (Int32.ofNat len)), .val (.int (Int32.ofNat i)), z] [.int (Int32.ofNat (o + i)), .ref b])) := cl.trans (by
        refine XS.iload Xl.here hexec rfl (hb hbytes d3) rfl ?_
        refine XS.iload Xl.here hexec rfl (hb hbytes d5) rfl ?_
        refine XS.icmpNo Xl.here hexec rfl (hb hbytes d7) rfl (ii_ge_f (lt32 (by omega) (by omega))) ?_
        refine XS.aloadN Xl.here hexec rfl (hb hbytes d10) rfl rfl ?_
        refine XS.iloadN Xl.here hexec rfl (hb hbytes d11) rfl ?_
        exact Steps.refl _)
      have c4 : Steps p.tables e below (s₁.setTop (entryFrame m #[.ref b, .int (Int32.ofNat o), .ref d, .int (Int32.ofNat q), .int (Int32.ofNat len)] 7)) (Tl.setTop (mkF m 13 #[.val (.ref b), .val (.int (Int32.ofNat (o + i))), .val (.ref d), .val (.int (Int32.ofNat (q + i))), .val (.int (Int32.ofNat len)), .val (.int (Int32.ofNat i)), z] [.int (cv A (o + i))])) := c3.trans (by
        refine Xl.aget hexec hAl rfl (hA.get (i := o + i) (by omega)) rfl rfl (hb hbytes d12) ?_
        exact Steps.refl _)
      have c5 : Steps p.tables e below (s₁.setTop (entryFrame m #[.ref b, .int (Int32.ofNat o), .ref d, .int (Int32.ofNat q), .int (Int32.ofNat len)] 7)) (Tl.setTop (mkF m 15 #[.val (.ref b), .val (.int (Int32.ofNat (o + i))), .val (.ref d), .val (.int (Int32.ofNat (q + i))), .val (.int (Int32.ofNat len)), .val (.int (Int32.ofNat i)), .val (.int (cv A (o + i)))] [])) := c4.trans (by
        refine XS.istoreS Xl.here hexec rfl (hb hbytes d13) rfl rfl hz ?_
        exact Steps.refl _)
      have c6 : Steps p.tables e below (s₁.setTop (entryFrame m #[.ref b, .int (Int32.ofNat o), .ref d, .int (Int32.ofNat q), .int (Int32.ofNat len)] 7)) (Tl.setTop (mkF m 31 #[.val (.ref b), .val (.int (Int32.ofNat (o + i))), .val (.ref d), .val (.int (Int32.ofNat (q + i))), .val (.int (Int32.ofNat len)), .val (.int (Int32.ofNat i)), .val (.int (cv A (o + i)))] [.int (lo8 (cv A (o + i))), .int (Int32.ofNat (q + i)), .ref d])) := c5.trans (by
        refine XS.iload Xl.here hexec rfl (hb hbytes d15) rfl ?_
        refine sipushV Xl.here hexec rfl 255 (hb hbytes d17) (by decide) ?_
        refine XS.icmpYes Xl.here hexec rfl (pc0 := 20) rfl (hb hbytes d20) rfl (ii_le_t (hp i (by omega))) (by decide) rfl ?_
        refine XS.aloadN Xl.here hexec rfl (hb hbytes d26) rfl rfl ?_
        refine XS.iloadN Xl.here hexec rfl (hb hbytes d27) rfl ?_
        refine XS.iload Xl.here hexec rfl (hb hbytes d28) rfl ?_
        refine i2b Xl.here hexec rfl (hb hbytes d30) rfl ?_
        exact Steps.refl _)
      obtain ⟨T7, X7, p7, st7⟩ := Xl.aput hexec hBk rfl hlt rfl (fits_lo8 (cv A (o + i))) (g := (mkF m 31 #[.val (.ref b), .val (.int (Int32.ofNat (o + i))), .val (.ref d), .val (.int (Int32.ofNat (q + i))), .val (.int (Int32.ofNat len)), .val (.int (Int32.ofNat i)), .val (.int (cv A (o + i)))] [.int (lo8 (cv A (o + i))), .int (Int32.ofNat (q + i)), .ref d])) rfl (rest := []) rfl (hb hbytes d31)
      have c8 : Steps p.tables e below (s₁.setTop (entryFrame m #[.ref b, .int (Int32.ofNat o), .ref d, .int (Int32.ofNat q), .int (Int32.ofNat len)] 7)) (T7.setTop (mkF m 32 #[.val (.ref b), .val (.int (Int32.ofNat (o + i))), .val (.ref d), .val (.int (Int32.ofNat (q + i))), .val (.int (Int32.ofNat len)), .val (.int (Int32.ofNat i)), .val (.int (cv A (o + i)))] [])) := c6.trans (st7 _ (Steps.refl _))
      have c9 : Steps p.tables e below (s₁.setTop (entryFrame m #[.ref b, .int (Int32.ofNat o), .ref d, .int (Int32.ofNat q), .int (Int32.ofNat len)] 7)) (T7.setTop (mkF m 3 #[.val (.ref b), .val (.int (Int32.ofNat (o + i) + 1)), .val (.ref d), .val (.int (Int32.ofNat (q + i) + 1)), .val (.int (Int32.ofNat len)), .val (.int (Int32.ofNat i + 1)), .val (.int (cv A (o + i)))] [])) := c8.trans (by
        refine iincV X7.here hexec rfl 1 (hb hbytes d32) (by decide) rfl rfl ?_
        refine iincV X7.here hexec rfl 1 (hb hbytes d35) (by decide) rfl rfl ?_
        refine iincV X7.here hexec rfl 1 (hb hbytes d38) (by decide) rfl rfl ?_
        refine XS.goto X7.here hexec rfl (pc0 := 41) rfl (hb hbytes d41) (by decide) rfl ?_
        exact Steps.refl _)
      have c10 : Steps p.tables e below (s₁.setTop (entryFrame m #[.ref b, .int (Int32.ofNat o), .ref d, .int (Int32.ofNat q), .int (Int32.ofNat len)] 7)) (T7.setTop (mkF m 3 #[.val (.ref b), .val (.int (Int32.ofNat (o + (i + 1)))), .val (.ref d), .val (.int (Int32.ofNat (q + (i + 1)))), .val (.int (Int32.ofNat len)), .val (.int (Int32.ofNat (i + 1))), .val (.int (cv A (o + i)))] [])) := by
        have := c9
        rw [succ32, succ32, succ32] at this
        exact this
      exact ih (i + 1) (by omega) _ (Or.inr ⟨_, rfl, rfl⟩) T7 _ (by rw [copyLocs_step, ← List.append_assoc]; exact X7) (pl.trans p7) (fl.step (by omega) hlt (by simp)) c10
  obtain ⟨T9, B9, z9, X9, p9, f9, g9⟩ := loop len 0 (by omega) .unset (Or.inl rfl) s₁ B (by simpa [copyLocs] using X0) ⟨hB0.1, fun _ _ => rfl, rfl⟩ (Laid.zero _ _ _) c2
  have c11 : Steps p.tables e below (s₁.setTop (entryFrame m #[.ref b, .int (Int32.ofNat o), .ref d, .int (Int32.ofNat q), .int (Int32.ofNat len)] 7)) (T9.setTop (mkF m 46 #[.val (.ref b), .val (.int (Int32.ofNat (o + len))), .val (.ref d), .val (.int (Int32.ofNat (q + len))), .val (.int (Int32.ofNat len)), .val (.int (Int32.ofNat len)), z9] [.int (Int32.ofNat len)])) := g9.trans (by
    refine XS.iload X9.here hexec rfl (hb hbytes d3) rfl ?_
    refine XS.iload X9.here hexec rfl (hb hbytes d5) rfl ?_
    refine XS.icmpYes X9.here hexec rfl (pc0 := 7) rfl (hb hbytes d7) rfl (ii_ge_t (nlt32 (by omega) (Nat.le_refl _))) (by decide) rfl ?_
    refine XS.iload X9.here hexec rfl (hb hbytes d44) rfl ?_
    exact Steps.refl _)
  exact ⟨T9, some (.int (Int32.ofNat len)), _, _, _, X9, by simp, rfl, rfl, (fun h => by cases h), ⟨rfl, B9, p9.from hh0, f9⟩, fun fs hl => c11.trans (X9.ireturnOut hexec hret rfl (Or.inl rfl) (hb hbytes d46) hl)⟩
end Cmp5
namespace Cmp3
def yN : MethodName := ⟨"java/lang/StringUTF16", "compress", "([CII)[B"⟩
abbrev yB : ByteArray := jdk_52_method_16_code
theorem d0 : decode yB 0 = .ok (.iload_n 2, 1) := by decide +kernel
theorem d1 : decode yB 1 = .ok (.newarray .byte, 2) := by decide +kernel
theorem d3 : decode yB 3 = .ok (.astore_n 3, 1) := by decide +kernel
theorem d4 : decode yB 4 = .ok (.aload_n 0, 1) := by decide +kernel
theorem d5 : decode yB 5 = .ok (.iload_n 1, 1) := by decide +kernel
theorem d6 : decode yB 6 = .ok (.aload_n 3, 1) := by decide +kernel
theorem d7 : decode yB 7 = .ok (.iconst 0, 1) := by decide +kernel
theorem d8 : decode yB 8 = .ok (.iload_n 2, 1) := by decide +kernel
theorem d9 : decode yB 9 = .ok (.invokestatic 115, 3) := by decide +kernel
theorem d12 : decode yB 12 = .ok (.istore 4, 2) := by decide +kernel
theorem d14 : decode yB 14 = .ok (.iload 4, 2) := by decide +kernel
theorem d16 : decode yB 16 = .ok (.iload_n 2, 1) := by decide +kernel
theorem d17 : decode yB 17 = .ok (.if_icmp (.eq) 40, 3) := by decide +kernel
theorem d57 : decode yB 57 = .ok (.aload_n 3, 1) := by decide +kernel
theorem d58 : decode yB 58 = .ok (.areturn, 1) := by decide +kernel
def site : List Cond := [.arrayClass .byte, Cmp5.tab] ++ staticW U16 115 Cmp5.yN
def tab : Cond := tabOf yN yB 6 (some (.array .byte)) site
def P (b : Addr) (A : Cell) (o len : Nat) (args : Array Value) (s : State) : Prop := args = #[.ref b, .int (Int32.ofNat o), .int (Int32.ofNat len)] ∧ Ch b A s ∧ o + len ≤ A.slots.size ∧ len ≤ 536870912 ∧ ∀ i, i < len → ¬ 255 < cv A (o + i)
def E (b : Addr) (A : Cell) (o len : Nat) (r : Option Value) (s u : State) : Prop := NewArr .byte "[B" len (fun j => .int (lo8 (cv A (o + j)))) r s u ∧ u.heap.size = s.heap.size + 1
/-- no char of the range above 255: a new byte[] of their low bytes -/
theorem law (l : Launch) (b : Addr) (A : Cell) (o len : Nat) : Law l yN 3 3 1 18 yB 6 (some (.array .byte)) site (P b A o len) (E b A o len) [] 1 len := by
  refine Law.of_walk (plainFor_of_name (by decide +kernel)) (by decide +kernel) (by decide +kernel) (by decide) (fun _ _ h => by rw [h.1]; rfl) (fun _ U U' hal hh h => ⟨h.1, h.2.1.mv hal hh, h.2.2⟩) (fun r U U' V V' h1 hal h2 h => ⟨NewArr.mv r U U' V V' h1 hal h2 h.1, by rw [h1, h2]; exact h.2⟩) ?_
  intro p e s m args below meth c s₁ X0 hexec hbytes hml hret hlk hnm hown hh0 W hP
  obtain ⟨rfl, hA, l1, l2, hp⟩ := hP
  have a31 := hA.1.2.2.2
  have c1 : Steps p.tables e below (s₁.setTop (entryFrame m #[.ref b, .int (Int32.ofNat o), .int (Int32.ofNat len)] 6)) (s₁.setTop (mkF m 0 #[.val (.ref b), .val (.int (Int32.ofNat o)), .val (.int (Int32.ofNat len)), .unset, .unset, .unset] [])) := entry rfl
  have c2 : Steps p.tables e below (s₁.setTop (entryFrame m #[.ref b, .int (Int32.ofNat o), .int (Int32.ofNat len)] 6)) (s₁.setTop (mkF m 1 #[.val (.ref b), .val (.int (Int32.ofNat o)), .val (.int (Int32.ofNat len)), .unset, .unset, .unset] [.int (Int32.ofNat len)])) := c1.trans (by
    refine XS.iloadN X0.here hexec rfl (hb hbytes d0) rfl ?_
    exact Steps.refl _)
  obtain ⟨T3, B3, X3, ba3, bs3, bv3, bh3, bf3, st3⟩ := X0.anew hexec (atype := .byte) (wk W (.arrayClass .byte)) rfl (by show len * 1 ≤ _; omega) (by omega) (g := (mkF m 1 #[.val (.ref b), .val (.int (Int32.ofNat o)), .val (.int (Int32.ofNat len)), .unset, .unset, .unset] [.int (Int32.ofNat len)])) rfl (hb hbytes d1) (rest := []) rfl (Nat.le_refl _) (by show 0 + len ≤ len; omega)
  rw [hh0] at ba3 st3
  have kp3 : XT.Kept s T3 := (XT.Kept.of_eq hh0).push bh3
  have hA3 := hA.keep X3.warmed.alike (kp3 _ _ hA.1.1)
  have hne : b ≠ s.heap.size := hA.1.ne
  have c4 : Steps p.tables e below (s₁.setTop (entryFrame m #[.ref b, .int (Int32.ofNat o), .int (Int32.ofNat len)] 6)) (T3.setTop (mkF m 3 #[.val (.ref b), .val (.int (Int32.ofNat o)), .val (.int (Int32.ofNat len)), .unset, .unset, .unset] [.ref s.heap.size])) := c2.trans (st3 _ (Steps.refl _))
  have c5 : Steps p.tables e below (s₁.setTop (entryFrame m #[.ref b, .int (Int32.ofNat o), .int (Int32.ofNat len)] 6)) (T3.setTop (mkF m 9 #[.val (.ref b), .val (.int (Int32.ofNat o)), .val (.int (Int32.ofNat len)), .val (.ref s.heap.size), .unset, .unset] [.int (Int32.ofNat len), .int 0, .ref s.heap.size, .int (Int32.ofNat o), .ref b])) := c4.trans (by
    refine XS.astoreN X3.here hexec rfl (hb hbytes d3) rfl rfl rfl ?_
    refine XS.aloadN X3.here hexec rfl (hb hbytes d4) rfl rfl ?_
    refine XS.iloadN X3.here hexec rfl (hb hbytes d5) rfl ?_
    refine XS.aloadN X3.here hexec rfl (hb hbytes d6) rfl rfl ?_
    refine iconstV X3.here hexec rfl 0 (hb hbytes d7) (by decide) ?_
    refine XS.iloadN X3.here hexec rfl (hb hbytes d8) rfl ?_
    exact Steps.refl _)
  obtain ⟨v6, T6, X6, E6, g6⟩ := X3.callS hexec (Cmp5.law l b A s.heap.size B3 o 0 len) hown (wks W (staticW U16 115 Cmp5.yN)) (wk W Cmp5.tab) (W := 0) (Nat.le_of_ble_eq_true rfl) (Nat.le_of_ble_eq_true rfl) (Nat.le_refl _) (by show 0 + len + 0 ≤ len; omega) (g := (mkF m 9 #[.val (.ref b), .val (.int (Int32.ofNat o)), .val (.int (Int32.ofNat len)), .val (.ref s.heap.size), .unset, .unset] [.int (Int32.ofNat len), .int (Int32.ofNat 0), .ref s.heap.size, .int (Int32.ofNat o), .ref b])) rfl (by rw [hml]; rfl) c5 (argsL := [.ref b, .int (Int32.ofNat o), .ref s.heap.size, .int (Int32.ofNat 0), .int (Int32.ofNat len)]) (rest := []) rfl rfl (by show 2 * 0 + 0 ≤ _; decide) (hb hbytes d9) (⟨rfl, hA3, ba3, hne, l1, by rw [bs3]; simp, hp⟩)
  obtain ⟨rfl, B6, p6, f6⟩ := E6
  have c7 : Steps p.tables e below (s₁.setTop (entryFrame m #[.ref b, .int (Int32.ofNat o), .int (Int32.ofNat len)] 6)) (T6.setTop (mkF m 12 #[.val (.ref b), .val (.int (Int32.ofNat o)), .val (.int (Int32.ofNat len)), .val (.ref s.heap.size), .unset, .unset] [.int (Int32.ofNat len)])) := g6
  have c8 : Steps p.tables e below (s₁.setTop (entryFrame m #[.ref b, .int (Int32.ofNat o), .int (Int32.ofNat len)] 6)) (T6.setTop (mkF m 58 #[.val (.ref b), .val (.int (Int32.ofNat o)), .val (.int (Int32.ofNat len)), .val (.ref s.heap.size), .val (.int (Int32.ofNat len)), .unset] [.ref s.heap.size])) := c7.trans (by
    refine XS.istore X6.here hexec rfl (hb hbytes d12) rfl rfl ?_
    refine XS.iload X6.here hexec rfl (hb hbytes d14) rfl ?_
    refine XS.iloadN X6.here hexec rfl (hb hbytes d16) rfl ?_
    refine XS.icmpYes X6.here hexec rfl (pc0 := 17) rfl (hb hbytes d17) rfl (ii_eq_t rfl) (by decide) rfl ?_
    refine XS.aloadN X6.here hexec rfl (hb hbytes d57) rfl rfl ?_
    exact Steps.refl _)
  have X8 := X6.wide (L' := []) (cells' := 1) (slots' := len) (fun x hx hlt => by
    simp only [List.nil_append, copyLocs, List.mem_map, List.mem_range] at hx
    obtain ⟨i, -, rfl⟩ := hx
    exact absurd hlt (Nat.lt_irrefl _)) (Nat.le_refl _) (by omega)
  exact ⟨T6, some (.ref s.heap.size), _, _, _, X8, rfl, rfl, rfl, (fun h => by cases h), ⟨⟨rfl, B6, ba3.like (X3.warmed.alike.symm.trans X6.warmed.alike) p6.1 f6.1 f6.2.1 f6.2.2.1, f6.2.1.trans bv3, by rw [X6.warmed.alike.findClass, f6.1]; exact bf3, by rw [f6.2.2.1, bs3]; simp, fun j hj => by rw [f6.2.2.2 j, if_pos (by omega)]; rfl, kp3.put p6 (Nat.le_refl _)⟩, by rw [p6.2.2, bh3, hh0]; simp⟩, fun fs hl => c8.trans (X8.areturnOut hexec rfl hret rfl (hb hbytes d58) hl)⟩
end Cmp3
namespace CodL
def yN : MethodName := ⟨"java/lang/StringUTF16", "coderFromArrayLen", "([BI)B"⟩
abbrev yB : ByteArray := jdk_52_method_15_code
theorem d0 : decode yB 0 = .ok (.iload_n 1, 1) := by decide +kernel
theorem d1 : decode yB 1 = .ok (.aload_n 0, 1) := by decide +kernel
theorem d2 : decode yB 2 = .ok (.arraylength, 1) := by decide +kernel
theorem d3 : decode yB 3 = .ok (.isub, 1) := by decide +kernel
theorem d4 : decode yB 4 = .ok (.bipush 31, 2) := by decide +kernel
theorem d6 : decode yB 6 = .ok (.iushr, 1) := by decide +kernel
theorem d7 : decode yB 7 = .ok (.i2b, 1) := by decide +kernel
theorem d8 : decode yB 8 = .ok (.ireturn, 1) := by decide +kernel
def site : List Cond := []
def tab : Cond := tabOf yN yB 2 (some .byte) site
def P (d : Addr) (B : Cell) (args : Array Value) (s : State) : Prop := args = #[.ref d, .int (Int32.ofNat B.slots.size)] ∧ Arr .byte d B s
def E (r : Option Value) (s u : State) : Prop := XT.PureE (some (.int 0)) r s u
/-- an array as long as the number of chars: LATIN1 -/
theorem law (l : Launch) (d : Addr) (B : Cell) : Law l yN 2 2 0 0 yB 2 (some .byte) site (P d B) E [] 0 0 := by
  refine Law.of_walk (plainFor_of_name (by decide +kernel)) (by decide +kernel) (by decide +kernel) (by decide) (fun _ _ h => by rw [h.1]; rfl) (fun _ U U' hal hh h => ⟨h.1, h.2.mv hal hh⟩) (fun r U U' V V' h1 hal h2 h => XT.PureE.mv r U U' V V' h1 hal h2 h) ?_
  intro p e s m args below meth c s₁ X0 hexec hbytes hml hret hlk hnm hown hh0 W hP
  obtain ⟨rfl, hB⟩ := hP
  have hB0 := hB.mv X0.warmed.alike hh0
  have c1 : Steps p.tables e below (s₁.setTop (entryFrame m #[.ref d, .int (Int32.ofNat B.slots.size)] 2)) (s₁.setTop (mkF m 0 #[.val (.ref d), .val (.int (Int32.ofNat B.slots.size))] [])) := entry rfl
  have c2 : Steps p.tables e below (s₁.setTop (entryFrame m #[.ref d, .int (Int32.ofNat B.slots.size)] 2)) (s₁.setTop (mkF m 2 #[.val (.ref d), .val (.int (Int32.ofNat B.slots.size))] [.ref d, .int (Int32.ofNat B.slots.size)])) := c1.trans (by
    refine XS.iloadN X0.here hexec rfl (hb hbytes d0) rfl ?_
    refine XS.aloadN X0.here hexec rfl (hb hbytes d1) rfl rfl ?_
    exact Steps.refl _)
  have c3 : Steps p.tables e below (s₁.setTop (entryFrame m #[.ref d, .int (Int32.ofNat B.slots.size)] 2)) (s₁.setTop (mkF m 8 #[.val (.ref d), .val (.int (Int32.ofNat B.slots.size))] [.int (lo8 (ushr (Int32.ofNat B.slots.size - Int32.ofNat B.slots.size) 31))])) := c2.trans (by
    refine X0.alen hexec hB0 rfl rfl (hb hbytes d2) ?_
    refine XS.isub X0.here hexec rfl (hb hbytes d3) rfl ?_
    refine bipushV X0.here hexec rfl 31 (hb hbytes d4) (by decide) ?_
    refine iushr X0.here hexec rfl (hb hbytes d6) rfl ?_
    refine i2b X0.here hexec rfl (hb hbytes d7) rfl ?_
    exact Steps.refl _)
  have e0 : lo8 (ushr (Int32.ofNat B.slots.size - Int32.ofNat B.slots.size) 31) = 0 := by rw [Int32.sub_self]; decide
  rw [e0] at c3
  exact ⟨s₁, some (.int 0), _, _, _, X0, rfl, rfl, rfl, (fun h => by cases h), ⟨rfl, hh0⟩, fun fs hl => c3.trans (X0.ireturnOut hexec hret rfl (Or.inr (Or.inr (Or.inl rfl))) (hb hbytes d8) hl)⟩
end CodL
/-- the String at a is Latin-1 over a new byte[] (the heap's one new cell): the low bytes of the len chars of A from o on; every cell but a is kept -/
def Got (a : Addr) (D : Cell) (fV fC : Field) (A : Cell) (o len : Nat) (r : Option Value) (s u : State) : Prop := r = none ∧ ∃ D' V : Cell, Blank "java/lang/String" a D' u ∧ Same D D' [fV.slot, fC.slot] ∧ D'.slots[fV.slot]? = some (.ref s.heap.size) ∧ D'.slots[fC.slot]? = some (.int 0) ∧ Arr .byte s.heap.size V u ∧ V.vm = .none ∧ u.vm.findClass "[B" = some V.cls ∧ V.slots.size = len ∧ (∀ j, j < len → V.slots[j]? = some (.int (lo8 (cv A (o + j))))) ∧ (∀ (y : Addr) (c : Cell), y ≠ a → s.heap[y]? = some c → u.heap[y]? = some c) ∧ u.heap.size = s.heap.size + 1
theorem Got.mv {a : Addr} {D A : Cell} {fV fC : Field} {o len : Nat} : ∀ r (U U' V V' : State), U'.heap = U.heap → V.vm.Alike V'.vm → V'.heap = V.heap → Got a D fV fC A o len r U V → Got a D fV fC A o len r U' V' :=
  fun r U U' V V' h1 hal h2 ⟨e0, D', X, a1, a2, a3, a4, a5, a6, a7, a8, a9, a10, a11⟩ => ⟨e0, D', X, a1.mv hal h2, a2, by rw [h1]; exact a3, a4, by rw [h1]; exact a5.mv hal h2, a6, by rw [hal.findClass]; exact a7, a8, a9, by rw [h1, h2]; exact a10, by rw [h1, h2]; exact a11⟩
namespace New4
def yN : MethodName := ⟨"java/lang/String", "<init>", "([CIILjava/lang/Void;)V"⟩
abbrev yB : ByteArray := jdk_42_method_149_code
theorem d0 : decode yB 0 = .ok (.aload_n 0, 1) := by decide +kernel
theorem d1 : decode yB 1 = .ok (.invokespecial 1, 3) := by decide +kernel
theorem d4 : decode yB 4 = .ok (.iload_n 3, 1) := by decide +kernel
theorem d5 : decode yB 5 = .ok (.ifCond (.ne) 22, 3) := by decide +kernel
theorem d27 : decode yB 27 = .ok (.getstatic 38, 3) := by decide +kernel
theorem d30 : decode yB 30 = .ok (.ifCond (.eq) 28, 3) := by decide +kernel
theorem d33 : decode yB 33 = .ok (.aload_n 1, 1) := by decide +kernel
theorem d34 : decode yB 34 = .ok (.iload_n 2, 1) := by decide +kernel
theorem d35 : decode yB 35 = .ok (.iload_n 3, 1) := by decide +kernel
theorem d36 : decode yB 36 = .ok (.invokestatic 177, 3) := by decide +kernel
theorem d39 : decode yB 39 = .ok (.astore 5, 2) := by decide +kernel
theorem d41 : decode yB 41 = .ok (.aload_n 0, 1) := by decide +kernel
theorem d42 : decode yB 42 = .ok (.aload 5, 2) := by decide +kernel
theorem d44 : decode yB 44 = .ok (.iload_n 3, 1) := by decide +kernel
theorem d45 : decode yB 45 = .ok (.invokestatic 47, 3) := by decide +kernel
theorem d48 : decode yB 48 = .ok (.putfield 15, 3) := by decide +kernel
theorem d51 : decode yB 51 = .ok (.aload_n 0, 1) := by decide +kernel
theorem d52 : decode yB 52 = .ok (.aload 5, 2) := by decide +kernel
theorem d54 : decode yB 54 = .ok (.putfield 9, 3) := by decide +kernel
theorem d57 : decode yB 57 = .ok (.return_, 1) := by decide +kernel
def site : List Cond := [.fieldLink "java/lang/String" 38 "java/lang/String" "COMPACT_STRINGS" "Z", Cmp3.tab, CodL.tab, .laysFinal "java/lang/String" "java/lang/String" "value" "[B", .fieldLink "java/lang/String" 9 "java/lang/String" "value" "[B", .laysFinal "java/lang/String" "java/lang/String" "coder" "B", .fieldLink "java/lang/String" 15 "java/lang/String" "coder" "B"] ++ objW "java/lang/String" 1 ++ staticW "java/lang/String" 177 Cmp3.yN ++ staticW "java/lang/String" 47 CodL.yN
def tab : Cond := tabOf yN yB 6 none site
def P (a : Addr) (D : Cell) (fV fC : Field) (b : Addr) (A : Cell) (z : Int32) (o len : Nat) (args : Array Value) (s : State) : Prop := args = #[.ref a, .ref b, .int (Int32.ofNat o), .int (Int32.ofNat len), .null] ∧ Blank "java/lang/String" a D s ∧ Found "java/lang/String" "value" "[B" fV s ∧ Found "java/lang/String" "coder" "B" fC s ∧ Ch b A s ∧ StaticIs s "java/lang/String" "COMPACT_STRINGS" "Z" (.int z) ∧ ¬ z = 0 ∧ 0 < len ∧ o + len ≤ A.slots.size ∧ len ≤ 536870912 ∧ ∀ i, i < len → ¬ 255 < cv A (o + i)
def E (a : Addr) (D : Cell) (fV fC : Field) (A : Cell) (o len : Nat) (r : Option Value) (s u : State) : Prop := Got a D fV fC A o len r s u
/-- len > 0, no char of the range above 255: a Latin-1 String of their low bytes -/
theorem law (l : Launch) (a : Addr) (D : Cell) (fV fC : Field) (b : Addr) (A : Cell) (z : Int32) (o len : Nat) : Law l yN 5 4 2 35 yB 6 none site (P a D fV fC b A z o len) (E a D fV fC A o len) [⟨a, fC.slot⟩, ⟨a, fV.slot⟩] 1 len := by
  refine Law.of_walk (plainFor_of_name (by decide +kernel)) (by decide +kernel) (by decide +kernel) (by decide) (fun _ _ h => by rw [h.1]; rfl) (fun _ U U' hal hh h => ⟨h.1, h.2.1.mv hal hh, h.2.2.1.al hal, h.2.2.2.1.al hal, h.2.2.2.2.1.mv hal hh, h.2.2.2.2.2.1.there hal hh, h.2.2.2.2.2.2⟩) (fun r U U' V V' h1 hal h2 h => Got.mv r U U' V V' h1 hal h2 h) ?_
  intro p e s m args below meth c s₁ X0 hexec hbytes hml hret hlk hnm hown hh0 W hP
  obtain ⟨rfl, hB, f1, f2, hA, s1, hz, l0, l1, l2, hp⟩ := hP
  have a31 := hA.1.2.2.2
  have c1 : Steps p.tables e below (s₁.setTop (entryFrame m #[.ref a, .ref b, .int (Int32.ofNat o), .int (Int32.ofNat len), .null] 6)) (s₁.setTop (mkF m 0 #[.val (.ref a), .val (.ref b), .val (.int (Int32.ofNat o)), .val (.int (Int32.ofNat len)), .val .null, .unset] [])) := entry rfl
  have c2 : Steps p.tables e below (s₁.setTop (entryFrame m #[.ref a, .ref b, .int (Int32.ofNat o), .int (Int32.ofNat len), .null] 6)) (s₁.setTop (mkF m 1 #[.val (.ref a), .val (.ref b), .val (.int (Int32.ofNat o)), .val (.int (Int32.ofNat len)), .val .null, .unset] [.ref a])) := c1.trans (by
    refine XS.aloadN X0.here hexec rfl (hb hbytes d0) rfl rfl ?_
    exact Steps.refl _)
  obtain ⟨T3, X3, q3, st3⟩ := X0.oinit hexec hown (wks W (objW "java/lang/String" 1)) (g := (mkF m 1 #[.val (.ref a), .val (.ref b), .val (.int (Int32.ofNat o)), .val (.int (Int32.ofNat len)), .val .null, .unset] [.ref a])) rfl (by rw [hml]; rfl) (rest := []) rfl (hb hbytes d1) (W := 0) (by show 2 * 0 + 0 ≤ _; decide) (Nat.le_of_ble_eq_true rfl) (Nat.le_of_ble_eq_true rfl)
  have hh3 := q3.trans hh0
  have c4 : Steps p.tables e below (s₁.setTop (entryFrame m #[.ref a, .ref b, .int (Int32.ofNat o), .int (Int32.ofNat len), .null] 6)) (T3.setTop (mkF m 27 #[.val (.ref a), .val (.ref b), .val (.int (Int32.ofNat o)), .val (.int (Int32.ofNat len)), .val .null, .unset] [])) := (c2.trans (st3 _ (Steps.refl _))).trans (by
    refine XS.iloadN X3.here hexec rfl (hb hbytes d4) rfl ?_
    refine XS.ifYes X3.here hexec rfl (pc0 := 5) rfl (hb hbytes d5) rfl (i0_ne_t (nz32 (by omega) l0)) (by decide) rfl ?_
    exact Steps.refl _)
  obtain ⟨T5, X5, q5, st5⟩ := X3.sget hexec hown (wk W (.fieldLink "java/lang/String" 38 "java/lang/String" "COMPACT_STRINGS" "Z")) s1 (fun _ _ h => by rw [hh3]; exact h) (g := (mkF m 27 #[.val (.ref a), .val (.ref b), .val (.int (Int32.ofNat o)), .val (.int (Int32.ofNat len)), .val .null, .unset] [])) rfl (hb hbytes d27)
  have hh5 := q5.trans hh3
  have c6 : Steps p.tables e below (s₁.setTop (entryFrame m #[.ref a, .ref b, .int (Int32.ofNat o), .int (Int32.ofNat len), .null] 6)) (T5.setTop (mkF m 30 #[.val (.ref a), .val (.ref b), .val (.int (Int32.ofNat o)), .val (.int (Int32.ofNat len)), .val .null, .unset] [.int z])) := c4.trans (st5 _ (Steps.refl _))
  have c7 : Steps p.tables e below (s₁.setTop (entryFrame m #[.ref a, .ref b, .int (Int32.ofNat o), .int (Int32.ofNat len), .null] 6)) (T5.setTop (mkF m 36 #[.val (.ref a), .val (.ref b), .val (.int (Int32.ofNat o)), .val (.int (Int32.ofNat len)), .val .null, .unset] [.int (Int32.ofNat len), .int (Int32.ofNat o), .ref b])) := c6.trans (by
    refine XS.ifNo X5.here hexec rfl (hb hbytes d30) rfl (i0_eq_f hz) ?_
    refine XS.aloadN X5.here hexec rfl (hb hbytes d33) rfl rfl ?_
    refine XS.iloadN X5.here hexec rfl (hb hbytes d34) rfl ?_
    refine XS.iloadN X5.here hexec rfl (hb hbytes d35) rfl ?_
    exact Steps.refl _)
  obtain ⟨v8, T8, X8, E8, g8⟩ := X5.callS hexec (Cmp3.law l b A o len) hown (wks W (staticW "java/lang/String" 177 Cmp3.yN)) (wk W Cmp3.tab) (W := 0) (Nat.le_of_ble_eq_true rfl) (Nat.le_of_ble_eq_true rfl) (Nat.le_refl _) (by show 0 + len ≤ len; omega) (g := (mkF m 36 #[.val (.ref a), .val (.ref b), .val (.int (Int32.ofNat o)), .val (.int (Int32.ofNat len)), .val .null, .unset] [.int (Int32.ofNat len), .int (Int32.ofNat o), .ref b])) rfl (by rw [hml]; rfl) c7 (argsL := [.ref b, .int (Int32.ofNat o), .int (Int32.ofNat len)]) (rest := []) rfl rfl (by show 2 * 0 + 0 ≤ _; decide) (hb hbytes d36) (⟨rfl, hA.mv X5.warmed.alike hh5, l1, l2, hp⟩)
  obtain ⟨e8, z8⟩ := E8
  obtain ⟨rfl, N, n1, n2, n3, n4, n5, n6⟩ := NewArr.mv _ T5 s _ _ hh5.symm (Vm.Alike.refl _) rfl e8
  rw [hh5] at z8
  have hB1 := hB.keep X8.warmed.alike (n6 _ _ hB.1)
  have hne : s.heap.size ≠ a := (Nat.ne_of_lt (Array.getElem?_eq_some_iff.mp hB.1).1).symm
  have c9 : Steps p.tables e below (s₁.setTop (entryFrame m #[.ref a, .ref b, .int (Int32.ofNat o), .int (Int32.ofNat len), .null] 6)) (T8.setTop (mkF m 39 #[.val (.ref a), .val (.ref b), .val (.int (Int32.ofNat o)), .val (.int (Int32.ofNat len)), .val .null, .unset] [.ref s.heap.size])) := g8
  have c10 : Steps p.tables e below (s₁.setTop (entryFrame m #[.ref a, .ref b, .int (Int32.ofNat o), .int (Int32.ofNat len), .null] 6)) (T8.setTop (mkF m 45 #[.val (.ref a), .val (.ref b), .val (.int (Int32.ofNat o)), .val (.int (Int32.ofNat len)), .val .null, .val (.ref s.heap.size)] [.int (Int32.ofNat N.slots.size), .ref s.heap.size, .ref a])) := by
    have hc : Steps p.tables e below (s₁.setTop (entryFrame m #[.ref a, .ref b, .int (Int32.ofNat o), .int (Int32.ofNat len), .null] 6)) (T8.setTop (mkF m 45 #[.val (.ref a), .val (.ref b), .val (.int (Int32.ofNat o)), .val (.int (Int32.ofNat len)), .val .null, .val (.ref s.heap.size)] [.int (Int32.ofNat len), .ref s.heap.size, .ref a])) := c9.trans (by
      refine XS.astore X8.here hexec rfl (hb hbytes d39) rfl rfl rfl ?_
      refine XS.aloadN X8.here hexec rfl (hb hbytes d41) rfl rfl ?_
      refine XS.aload X8.here hexec rfl (hb hbytes d42) rfl rfl ?_
      refine XS.iloadN X8.here hexec rfl (hb hbytes d44) rfl ?_
      exact Steps.refl _)
    rw [n4]; exact hc
  obtain ⟨v11, T11, X11, E11, g11⟩ := X8.callS hexec (CodL.law l s.heap.size N) hown (wks W (staticW "java/lang/String" 47 CodL.yN)) (wk W CodL.tab) (W := 1) (Nat.le_of_ble_eq_true rfl) (Nat.le_of_ble_eq_true rfl) (Nat.le_refl _) (by show 0 + len + 0 ≤ len; omega) (g := (mkF m 45 #[.val (.ref a), .val (.ref b), .val (.int (Int32.ofNat o)), .val (.int (Int32.ofNat len)), .val .null, .val (.ref s.heap.size)] [.int (Int32.ofNat N.slots.size), .ref s.heap.size, .ref a])) rfl (by rw [hml]; rfl) c10 (argsL := [.ref s.heap.size, .int (Int32.ofNat N.slots.size)]) (rest := [.ref a]) rfl rfl (by show 2 * 0 + (1 + 0) ≤ _; decide) (hb hbytes d45) (⟨rfl, n1⟩)
  obtain ⟨rfl, q11⟩ := E11
  have hB11 := hB1.mv (X8.warmed.alike.symm.trans X11.warmed.alike) q11
  have c12 : Steps p.tables e below (s₁.setTop (entryFrame m #[.ref a, .ref b, .int (Int32.ofNat o), .int (Int32.ofNat len), .null] 6)) (T11.setTop (mkF m 48 #[.val (.ref a), .val (.ref b), .val (.int (Int32.ofNat o)), .val (.int (Int32.ofNat len)), .val .null, .val (.ref s.heap.size)] [.int 0, .ref a])) := g11
  obtain ⟨T13, X13, p13, bl13, sl13, st13⟩ := X11.finit hexec hown (wk W (.fieldLink "java/lang/String" 15 "java/lang/String" "coder" "B")) (Or.inr ⟨_, (wk W (.laysFinal "java/lang/String" "java/lang/String" "coder" "B"))⟩) (Or.inl ⟨rfl, hnm⟩) f2 (Or.inl rfl) hB11 (t := .byte) (by decide +kernel) rfl (g := (mkF m 48 #[.val (.ref a), .val (.ref b), .val (.int (Int32.ofNat o)), .val (.int (Int32.ofNat len)), .val .null, .val (.ref s.heap.size)] [.int 0, .ref a])) rfl (rest := []) rfl (hb hbytes d48)
  have c14 : Steps p.tables e below (s₁.setTop (entryFrame m #[.ref a, .ref b, .int (Int32.ofNat o), .int (Int32.ofNat len), .null] 6)) (T13.setTop (mkF m 54 #[.val (.ref a), .val (.ref b), .val (.int (Int32.ofNat o)), .val (.int (Int32.ofNat len)), .val .null, .val (.ref s.heap.size)] [.ref s.heap.size, .ref a])) := (c12.trans (st13 _ (Steps.refl _))).trans (by
    refine XS.aloadN X13.here hexec rfl (hb hbytes d51) rfl rfl ?_
    refine XS.aload X13.here hexec rfl (hb hbytes d52) rfl rfl ?_
    exact Steps.refl _)
  obtain ⟨T15, X15, p15, bl15, sl15, st15⟩ := X13.finit hexec hown (wk W (.fieldLink "java/lang/String" 9 "java/lang/String" "value" "[B")) (Or.inr ⟨_, (wk W (.laysFinal "java/lang/String" "java/lang/String" "value" "[B"))⟩) (Or.inl ⟨rfl, hnm⟩) f1 (Or.inl rfl) bl13 (t := (.array .byte)) (by decide +kernel) rfl (g := (mkF m 54 #[.val (.ref a), .val (.ref b), .val (.int (Int32.ofNat o)), .val (.int (Int32.ofNat len)), .val .null, .val (.ref s.heap.size)] [.ref s.heap.size, .ref a])) rfl (rest := []) rfl (hb hbytes d54)
  have c16 : Steps p.tables e below (s₁.setTop (entryFrame m #[.ref a, .ref b, .int (Int32.ofNat o), .int (Int32.ofNat len), .null] 6)) (T15.setTop (mkF m 57 #[.val (.ref a), .val (.ref b), .val (.int (Int32.ofNat o)), .val (.int (Int32.ofNat len)), .val .null, .val (.ref s.heap.size)] [])) := c14.trans (st15 _ (Steps.refl _))
  have ap := apart (Or.inr ⟨_, (wk W (.laysFinal "java/lang/String" "java/lang/String" "value" "[B"))⟩) (Or.inr ⟨_, (wk W (.laysFinal "java/lang/String" "java/lang/String" "coder" "B"))⟩) f1 f2 (t₁ := .array .byte) (t₂ := .byte) (by decide +kernel) (by decide +kernel) (by decide)
  have al := X8.warmed.alike.symm.trans X15.warmed.alike
  have n7 : T11.heap[s.heap.size]? = some N := by rw [q11]; exact n1.1
  exact ⟨T15, none, _, _, _, X15, by simp, rfl, by omega, (fun _ => rfl), ⟨rfl, _, N, bl15, ((Same.refl D _).set _ (by simp)).set _ (by simp), sl15, (Cell.slots_setSlot_ne _ ap).trans sl13, n1.keep al (p15.other hne (p13.other hne n7)), n2, by rw [al.findClass]; exact n3, n4, n5, fun y c h1 h2 => p15.other h1 (p13.other h1 (by rw [q11]; exact n6 y c h2)), by rw [p15.2.2, p13.2.2, q11]; exact z8⟩, fun fs hl => c16.trans (X15.returnOut hexec hret (hb hbytes d57) hl)⟩
end New4
namespace New1
def yN : MethodName := ⟨"java/lang/String", "<init>", "([C)V"⟩
abbrev yB : ByteArray := jdk_42_method_3_code
theorem d0 : decode yB 0 = .ok (.aload_n 0, 1) := by decide +kernel
theorem d1 : decode yB 1 = .ok (.aload_n 1, 1) := by decide +kernel
theorem d2 : decode yB 2 = .ok (.iconst 0, 1) := by decide +kernel
theorem d3 : decode yB 3 = .ok (.aload_n 1, 1) := by decide +kernel
theorem d4 : decode yB 4 = .ok (.arraylength, 1) := by decide +kernel
theorem d5 : decode yB 5 = .ok (.aconst_null, 1) := by decide +kernel
theorem d6 : decode yB 6 = .ok (.invokespecial 27, 3) := by decide +kernel
theorem d9 : decode yB 9 = .ok (.return_, 1) := by decide +kernel
def site : List Cond := [New4.tab] ++ initW "java/lang/String" 27 New4.yN
def tab : Cond := tabOf yN yB 2 none site
def P (a : Addr) (D : Cell) (fV fC : Field) (b : Addr) (A : Cell) (z : Int32) (args : Array Value) (s : State) : Prop := args = #[.ref a, .ref b] ∧ Blank "java/lang/String" a D s ∧ Found "java/lang/String" "value" "[B" fV s ∧ Found "java/lang/String" "coder" "B" fC s ∧ Ch b A s ∧ StaticIs s "java/lang/String" "COMPACT_STRINGS" "Z" (.int z) ∧ ¬ z = 0 ∧ 0 < A.slots.size ∧ A.slots.size ≤ 536870912 ∧ ∀ i, i < A.slots.size → ¬ 255 < cv A i
def E (a : Addr) (D : Cell) (fV fC : Field) (A : Cell) (r : Option Value) (s u : State) : Prop := Got a D fV fC A 0 A.slots.size r s u
/-- new String(chars), not empty, no char above 255: a Latin-1 String of their low bytes -/
theorem law (l : Launch) (a : Addr) (D : Cell) (fV fC : Field) (b : Addr) (A : Cell) (z : Int32) : Law l yN 2 1 3 52 yB 2 none site (P a D fV fC b A z) (E a D fV fC A) [⟨a, fC.slot⟩, ⟨a, fV.slot⟩] 1 A.slots.size := by
  refine Law.of_walk (plainFor_of_name (by decide +kernel)) (by decide +kernel) (by decide +kernel) (by decide) (fun _ _ h => by rw [h.1]; rfl) (fun _ U U' hal hh h => ⟨h.1, h.2.1.mv hal hh, h.2.2.1.al hal, h.2.2.2.1.al hal, h.2.2.2.2.1.mv hal hh, h.2.2.2.2.2.1.there hal hh, h.2.2.2.2.2.2⟩) (fun r U U' V V' h1 hal h2 h => Got.mv r U U' V V' h1 hal h2 h) ?_
  intro p e s m args below meth c s₁ X0 hexec hbytes hml hret hlk hnm hown hh0 W hP
  obtain ⟨rfl, hB, f1, f2, hA, s1, hz, l0, l2, hp⟩ := hP
  have c1 : Steps p.tables e below (s₁.setTop (entryFrame m #[.ref a, .ref b] 2)) (s₁.setTop (mkF m 0 #[.val (.ref a), .val (.ref b)] [])) := entry rfl
  have c2 : Steps p.tables e below (s₁.setTop (entryFrame m #[.ref a, .ref b] 2)) (s₁.setTop (mkF m 6 #[.val (.ref a), .val (.ref b)] [.null, .int (Int32.ofNat A.slots.size), .int 0, .ref b, .ref a])) := c1.trans (by
    refine XS.aloadN X0.here hexec rfl (hb hbytes d0) rfl rfl ?_
    refine XS.aloadN X0.here hexec rfl (hb hbytes d1) rfl rfl ?_
    refine iconstV X0.here hexec rfl 0 (hb hbytes d2) (by decide) ?_
    refine XS.aloadN X0.here hexec rfl (hb hbytes d3) rfl rfl ?_
    refine X0.alen hexec (hA.1.mv X0.warmed.alike hh0) rfl rfl (hb hbytes d4) ?_
    refine XS.aconstNull X0.here hexec rfl (hb hbytes d5) ?_
    exact Steps.refl _)
  obtain ⟨v3, T3, X3, E3, g3⟩ := X0.callN hexec (New4.law l a D fV fC b A z 0 A.slots.size) rfl hown (wks W (initW "java/lang/String" 27 New4.yN)) (W New4.tab (by simp only [site, List.mem_cons, List.mem_append, true_or, or_true])) (W := 0) (Nat.le_of_ble_eq_true rfl) (Nat.le_of_ble_eq_true rfl) (Nat.le_refl _) (by show 0 + A.slots.size ≤ A.slots.size; omega) (g := (mkF m 6 #[.val (.ref a), .val (.ref b)] [.null, .int (Int32.ofNat A.slots.size), .int (Int32.ofNat 0), .ref b, .ref a])) rfl (by rw [hml]; rfl) c2 (argsL := [.ref b, .int (Int32.ofNat 0), .int (Int32.ofNat A.slots.size), .null]) (rest := []) rfl rfl (by show 2 * 0 + 0 ≤ _; decide) (hb hbytes d6) (⟨rfl, hB.mv X0.warmed.alike hh0, f1.al X0.warmed.alike, f2.al X0.warmed.alike, hA.mv X0.warmed.alike hh0, s1.there X0.warmed.alike hh0, hz, l0, by omega, l2, fun i hi => by rw [Nat.zero_add]; exact hp i hi⟩)
  have e0 := Got.mv _ s₁ s _ _ hh0.symm (Vm.Alike.refl _) rfl E3
  obtain rfl := e0.1
  have c4 : Steps p.tables e below (s₁.setTop (entryFrame m #[.ref a, .ref b] 2)) (T3.setTop (mkF m 9 #[.val (.ref a), .val (.ref b)] [])) := g3
  exact ⟨T3, none, _, _, _, X3, by simp, rfl, by omega, (fun _ => rfl), e0, fun fs hl => c4.trans (X3.returnOut hexec hret (hb hbytes d9) hl)⟩
theorem pays {l : Launch} {R : Room} {p : Program} {e : Env} {below : List Frame} {s : State} {sargs : Array Value} {len W : Nat} (a : Addr) (D : Cell) (fV fC : Field) (b : Addr) (A : Cell) (z : Int32) (htab : tab.before sargs s = true) (hfr : 4 ≤ R.frames) (hlo : W + 65 ≤ R.locals) :
    Back l R p e below s sargs yN len W (fun A₁ a₁ => A₁.cells + 1 ≤ R.cells ∧ A₁.slots + A.slots.size ≤ R.slots ∧ P a D fV fC b A z a₁ A₁.U) (fun A₁ _ v₁ B₁ => E a D fV fC A v₁ A₁.U B₁.U ∧ B₁.locs = A₁.locs ++ [⟨a, fC.slot⟩, ⟨a, fV.slot⟩] ∧ B₁.cells = A₁.cells + 1 ∧ B₁.slots = A₁.slots + A.slots.size) :=
  (law l a D fV fC b A z).pays htab hfr (by omega)
end New1
end StrChars
namespace StrChars.Road
open Jvm Sem ClassFile Op Lib Jvm.Stand Jvm.Free Jvm.Free.XT
open Jvm.Lib.Cold (StaticIs)
abbrev ST : String := "java/lang/String"
/-- every table word that New1's law asks, flat -/
abbrev words : List Jvm.Cond := [.code New1.yN New1.yB 2 none, .initialized ST, .methodLink ST 27 New4.yN, .instanceMethod New4.yN,
  .code New4.yN New4.yB 6 none, .fieldLink ST 38 ST "COMPACT_STRINGS" "Z", .laysFinal ST ST "value" "[B", .fieldLink ST 9 ST "value" "[B", .laysFinal ST ST "coder" "B", .fieldLink ST 15 ST "coder" "B",
  .methodLink ST 1 Lib.objectInit, .instanceMethod Lib.objectInit, .code Lib.objectInit ⟨#[0xb1]⟩ 1 none, .methodLink ST 177 Cmp3.yN, .static Cmp3.yN, .methodLink ST 47 CodL.yN, .static CodL.yN,
  .code Cmp3.yN Cmp3.yB 6 (some (.array .byte)), .initialized U16, .arrayClass .byte, .methodLink U16 115 Cmp5.yN, .static Cmp5.yN, .code Cmp5.yN Cmp5.yB 7 (some .int), .code CodL.yN CodL.yB 2 (some .byte)]
theorem tab_of {a : Array Value} {s : State} (h : ∀ w ∈ words, w.before a s = true) : New1.tab.before a s = true := by
  have h5 : Cmp5.tab.before a s = true := unparts (wk h (.code Cmp5.yN Cmp5.yB 7 (some .int))) (wks h (.initialized Cmp5.yN.cls :: Cmp5.site))
  have hc : CodL.tab.before a s = true := unparts (wk h (.code CodL.yN CodL.yB 2 (some .byte))) (wks h (.initialized CodL.yN.cls :: CodL.site))
  have q5 : ∀ w ∈ Cmp5.tab :: words, w.before a s = true := fun w hw => (List.mem_cons.mp hw).elim (fun e => e ▸ h5) (h w)
  have h3 : Cmp3.tab.before a s = true := unparts (wk q5 (.code Cmp3.yN Cmp3.yB 6 (some (.array .byte)))) (wks q5 (.initialized Cmp3.yN.cls :: Cmp3.site))
  have q3 : ∀ w ∈ Cmp3.tab :: CodL.tab :: words, w.before a s = true := fun w hw => (List.mem_cons.mp hw).elim (fun e => e ▸ h3) fun hw => (List.mem_cons.mp hw).elim (fun e => e ▸ hc) (h w)
  have h4 : New4.tab.before a s = true := unparts (wk q3 (.code New4.yN New4.yB 6 none)) (wks q3 (.initialized New4.yN.cls :: New4.site))
  have q4 : ∀ w ∈ New4.tab :: words, w.before a s = true := fun w hw => (List.mem_cons.mp hw).elim (fun e => e ▸ h4) (h w)
  exact unparts (wk q4 (.code New1.yN New1.yB 2 none)) (wks q4 (.initialized New1.yN.cls :: New1.site))
/-- the words ride from the start Z to the walk's own state -/
theorem moved {Z s : State} {a0 args : Array Value} (hZ : Z.Warmed39 s.vm) (hw : ∀ d ∈ words, d.before a0 Z = true) : ∀ d ∈ words, d.before args s = true := fun d hd => by
  have q := hw d hd
  have t : ∀ d ∈ words, d = .arrayClass .byte ∨ (d.onTables && d.keepsFace) = true := by decide +kernel
  rcases t d hd with rfl | t
  · exact RoadKit.mvA hZ q
  · exact RoadKit.mv hZ q t
/-- WHAT COMES BACK, over the tables of the start Z: h the heap at the call, h' behind it -/
def Q (Z : State) (x : Addr) (A : Cell) (h : Heap) (v : Option Value) (h' : Heap) (L : List Loc) : Prop := v = none ∧ (∀ y ∈ L, y.base = x) ∧ RoadKit.Keep h h' [x] ∧ h'.size = h.size + 1 ∧ RoadKit.Exa Z h' x ST ∧ RoadKit.Fld Z h' x ST "value" "[B" (.ref h.size) ∧ RoadKit.Fld Z h' x ST "coder" "B" (.int 0) ∧
  (∃ V : Cell, RoadKit.Arr Z h' h.size V .byte ∧ V.vm = .none ∧ Z.vm.findClass "[B" = some V.cls ∧ V.slots.size = A.slots.size ∧ ∀ j, j < A.slots.size → V.slots[j]? = some (.int (lo8 (cv A j)))) ∧
  ∀ (O n d : String) (w : Value), RoadKit.Fld Z h x O n d w → RoadKit.slotOf Z O n d ≠ RoadKit.slotOf Z ST "value" "[B" → RoadKit.slotOf Z O n d ≠ RoadKit.slotOf Z ST "coder" "B" → RoadKit.Fld Z h' x O n d w
/-- **new String(chars) AT A CALL, IN THE ROAD'S FORM**: for specialBack behind newO: x the fresh String, b the char[] with the cell A -/
theorem back {p : Program} {l : Launch} {e : Env} {R : Room} {s : State} {args : Array Value} {below : List Frame} {len W : Nat} {Z : State} {a0 : Array Value} {h : Heap} (hZ : Z.Warmed39 s.vm) (hw : ∀ d ∈ words, d.before a0 Z = true) {kI : Nat} (wi : (Jvm.Cond.instantiable ST kI).before a0 Z = true)
    {x b : Addr} {A : Cell} {z : Int32} {v0 c0 : Value} (E : RoadKit.Exa Z h x ST) (V : RoadKit.Fld Z h x ST "value" "[B" v0) (C : RoadKit.Fld Z h x ST "coder" "B" c0) (K : RoadKit.Arr Z h b A .char) (hty : Typed .char A) (S : RoadKit.Sta Z h ST "COMPACT_STRINGS" "Z" (.int z)) (hz : ¬ z = 0)
    (l0 : 0 < A.slots.size) (l2 : A.slots.size ≤ 536870912) (hp : ∀ i, i < A.slots.size → ¬ 255 < cv A i) (hfr : 4 ≤ R.frames) (hlo : W + 65 ≤ R.locals) :
    Back l R p e below s args New1.yN len W (fun P a => a = #[.ref x, .ref b] ∧ P.U.heap = h ∧ P.cells + 1 ≤ R.cells ∧ P.slots + A.slots.size ≤ R.slots)
      (fun P _ v B => ∃ L, Q Z x A h v B.U.heap L ∧ B.locs = P.locs ++ L ∧ B.cells = P.cells + 1 ∧ B.slots = P.slots + A.slots.size) := by
  intro m meth c P g ig mk a X hg hsize hdg hW hn hp'
  obtain ⟨rfl, rfl, r1, r2⟩ := hp'
  have al : Z.vm.Alike P.U.vm := hZ.alike.trans X.warmed.alike
  obtain ⟨D, cfV, kV, iV, fV, hD, gV, stV, knV, obV, asV, slV⟩ := id V
  obtain ⟨D', cfC, kC, iC, fC, hD', gC, stC, -, -, asC, slC⟩ := id C
  cases hD.symm.trans hD'
  obtain ⟨D2, kD, e1, e2, e3, e4, e5⟩ := id E
  cases hD.symm.trans e1
  obtain ⟨c2, k2, i1, i2, i3, -⟩ := Cond.instantiable_spec wi
  cases e2.symm.trans i1
  cases e3.symm.trans i2
  obtain ⟨kU, u1, u2⟩ := al.2.2 _ _ e3
  have hB : Blank ST x D P.U := ⟨hD, ⟨knV, fun q hq => by rw [hq] at obV; cases obV⟩, by rw [al.findClass]; exact e2, kU, u1, by rw [u2]; exact i3, by rw [u2]; exact e5 i3⟩
  have F1 : Found ST "value" "[B" fV P.U := ⟨SBG.found_only al ⟨cfV, kV, iV, gV⟩, stV⟩
  have F2 : Found ST "coder" "B" fC P.U := ⟨SBG.found_only al ⟨cfC, kC, iC, gC⟩, stC⟩
  have hA : Ch b A P.U := ⟨⟨K.1, State.isArrayOf_alike al K.2.1, K.2.2, by omega⟩, hty⟩
  have hS : StaticIs P.U ST "COMPACT_STRINGS" "Z" (.int z) := by
    obtain ⟨cfS, iS, kS, fS, st, cS, t1, t2, t3, t4, t5, t6, t7⟩ := S
    exact StaticIs.there (s := { Z with heap := P.U.heap }) ⟨cfS, iS, kS, fS, st, cS, t1, t2, t3, t4, t5, (fun q => by rw [q] at t6; cases t6), t7⟩ al rfl
  obtain ⟨v, B, X', ⟨⟨hv, E', V', q1, q2, q3, q4, q5, q6, q7, q8, q9, q10, q11⟩, hl, hc, hs⟩, st⟩ := New1.pays x D fV fC b A z (tab_of (moved hZ hw)) hfr hlo m meth c P g ig mk _ X hg hsize hdg hW hn ⟨r1, r2, rfl, hB, F1, F2, hA, hS, hz, l0, l2, hp⟩
  have al' : Z.vm.Alike B.U.vm := hZ.alike.trans X'.warmed.alike
  have hsz : E'.slots.size = D.slots.size := by
    obtain ⟨-, -, -, kB, w1, w2, w3⟩ := q1
    obtain ⟨kB', y1, y2⟩ := al'.2.2 _ _ e3
    rw [q2.2.1] at w1
    cases w1.symm.trans y1
    rw [w3, e5 i3, y2]
  refine ⟨v, B, X', ⟨_, ⟨hv, ?_, ⟨by omega, fun y cy hy hn' => q10 y cy (by simpa using hn') hy, fun y cy hy => ?_⟩, q11, ⟨E', _, q1.1, by rw [q2.2.1]; exact e2, by rw [q2.2.1]; exact e3, by rw [q2.1]; exact obV, fun _ => by rw [hsz]; exact e5 i3⟩,
    ⟨E', cfV, kV, iV, fV, q1.1, gV, stV, by rw [q2.1]; exact knV, by rw [q2.1]; exact obV, by rw [q2.2.1]; exact asV, q3⟩, ⟨E', cfC, kC, iC, fC, q1.1, gC, stC, by rw [q2.1]; exact knV, by rw [q2.1]; exact obV, by rw [q2.2.1]; exact asC, q4⟩,
    ⟨V', ⟨q5.1, State.isArrayOf_alike al'.symm q5.2.1, q5.2.2.1⟩, q6, by rw [← al'.findClass]; exact q7, q8, fun j hj => by have := q9 j hj; rwa [Nat.zero_add] at this⟩, fun O n d w F n1 n2 => ?_⟩, hl, hc, hs⟩, st⟩
  · intro y hy
    simp only [List.mem_cons, List.not_mem_nil, or_false] at hy
    rcases hy with rfl | rfl <;> rfl
  · by_cases q : y = x
    · subst q
      cases hD.symm.trans hy
      exact ⟨E', q1.1, q2.2.1, q2.1, hsz⟩
    · exact ⟨cy, q10 y cy q hy, rfl, rfl, rfl⟩
  · obtain ⟨D3, cf, k, i, f, g1, g2, g3, g4, g5, g6, g7⟩ := F
    cases hD.symm.trans g1
    simp only [RoadKit.slotOf, g2, gV, gC, Option.map_some, Option.getD_some] at n1 n2
    exact ⟨E', cf, k, i, f, q1.1, g2, g3, by rw [q2.1]; exact g4, by rw [q2.1]; exact g5, by rw [q2.2.1]; exact g6, by rw [q2.2.2 f.slot (by simp [n1, n2])]; exact g7⟩
end StrChars.Road
namespace StrChars.Road
open Jvm Sem ClassFile Op Lib Jvm.Stand Jvm.Free Jvm.Free.XT
/-- WHAT COMES BACK, the byte[] as a list of values -/
def QA (Z : State) (x : Addr) (zn : Int32) (cs : List Int32) (h : Heap) (v : Option Value) (h' : Heap) (L : List Loc) : Prop := v = none ∧ (∀ y ∈ L, y.base = x) ∧ RoadKit.Keep h h' [x] ∧ h'.size = h.size + 1 ∧ RoadKit.Exa Z h' x ST ∧ RoadKit.Fld Z h' x ST "value" "[B" (.ref h.size) ∧ RoadKit.Fld Z h' x ST "coder" "B" (.int 0) ∧
  (∃ kb, Z.vm.findClass "[B" = some kb ∧ RoadKit.Arv Z h' h.size kb .byte zn (cs.map fun c => .int (lo8 c)) (.int 0)) ∧
  ∀ (O n d : String) (w : Value), RoadKit.Fld Z h x O n d w → RoadKit.slotOf Z O n d ≠ RoadKit.slotOf Z ST "value" "[B" → RoadKit.slotOf Z O n d ≠ RoadKit.slotOf Z ST "coder" "B" → RoadKit.Fld Z h' x O n d w
/-- **new String(chars) AT A CALL, THE ARRAYS AS LISTS**: the char[] at b holds cs, not empty, no char above 255 -/
theorem backArv {p : Program} {l : Launch} {e : Env} {R : Room} {s : State} {args : Array Value} {below : List Frame} {len W : Nat} {Z : State} {a0 : Array Value} {h : Heap} (hZ : Z.Warmed39 s.vm) (hw : ∀ d ∈ words, d.before a0 Z = true) {kI : Nat} (wi : (Jvm.Cond.instantiable ST kI).before a0 Z = true)
    {x b : Addr} {k : ClassId} {zn z : Int32} {cs : List Int32} {dv v0 c0 : Value} (E : RoadKit.Exa Z h x ST) (V : RoadKit.Fld Z h x ST "value" "[B" v0) (C : RoadKit.Fld Z h x ST "coder" "B" c0) (K : RoadKit.Arv Z h b k .char zn (cs.map Value.int) dv) (S : RoadKit.Sta Z h ST "COMPACT_STRINGS" "Z" (.int z)) (hz : ¬ z = 0)
    (hlen : zn.toNatClampNeg = cs.length) (h0 : 0 < cs.length) (hbig : cs.length ≤ 536870912) (hall : ∀ c ∈ cs, ¬ 255 < c) (hfr : 4 ≤ R.frames) (hlo : W + 65 ≤ R.locals) :
    Back l R p e below s args New1.yN len W (fun P a => a = #[.ref x, .ref b] ∧ P.U.heap = h ∧ P.cells + 1 ≤ R.cells ∧ P.slots + cs.length ≤ R.slots)
      (fun P _ v B => ∃ L, QA Z x zn cs h v B.U.heap L ∧ B.locs = P.locs ++ L ∧ B.cells = P.cells + 1 ∧ B.slots = P.slots + cs.length) := by
  obtain ⟨A, K1, K2, K3, K4, K5, K6⟩ := K
  have e : A.slots.size = cs.length := K3.trans hlen
  have hat : ∀ (i : Nat) (hi : i < cs.length), A.slots[i]? = some (.int cs[i]) := fun i hi => by rw [K5 i (by omega)]; simp [List.getD_eq_getElem?_getD, hi]
  have hcv : ∀ (i : Nat) (hi : i < cs.length), cv A i = cs[i] := fun i hi => by unfold cv; rw [hat i hi]
  have hty : Typed .char A := fun i v hv => by
    have hi : i < A.slots.size := (Array.getElem?_eq_some_iff.mp hv).1
    have q := K5 i hi
    rw [hv] at q
    rw [Option.some.inj q]
    exact K6 i hi
  refine Back.mono (back hZ hw wi E V C K1 hty S hz (by omega) (by omega) (fun i hi => by rw [hcv i (by omega)]; exact hall _ (List.getElem_mem _)) hfr hlo) (fun P a hp => ⟨hp.1, hp.2.1, hp.2.2.1, by rw [e]; exact hp.2.2.2⟩) (fun P a v B hp hq => ?_)
  obtain ⟨L, ⟨q1, q2, q3, q4, q5, q6, q7, ⟨V', v1, v2, v3, v4, v5⟩, q9⟩, hl, hc, hs⟩ := hq
  refine ⟨L, ⟨q1, q2, q3, q4, q5, q6, q7, ⟨V'.cls, v3, V', v1, rfl, by rw [v4, e, hlen], K4, fun i hi => ?_, fun i hi => ?_⟩, q9⟩, hl, hc, by rw [hs, e]⟩
  · have hi' : i < cs.length := by omega
    rw [v5 i (by omega), hcv i hi']; simp [List.getD_eq_getElem?_getD, hi']
  · have hi' : i < cs.length := by omega
    simp only [List.getD_eq_getElem?_getD, List.getElem?_map, List.getElem?_eq_getElem hi', Option.map_some, Option.getD_some]
    exact fits_lo8 _
end StrChars.Road
namespace StrChars.Road
open Jvm Sem ClassFile Op Lib Jvm.Stand Jvm.Free Jvm.Free.XT
/-- WHAT COMES BACK, in the writer's own shape -/
def QV (Z : State) (x : Addr) (N : Int32) (bs : List Int32) (h : Heap) (n0 : Nat) (v : Option Value) (h' : Heap) (L : List Loc) : Prop := v = none ∧ RoadKit.Fr n0 L ∧ RoadKit.Keep h h' [x] ∧ RoadKit.Exa Z h' x ST ∧ RoadKit.Fld Z h' x ST "coder" "B" (.int 0) ∧
  ∃ (t : Addr) (kb : ClassId), n0 ≤ t ∧ h.size ≤ t ∧ ¬ t = x ∧ RoadKit.Fld Z h' x ST "value" "[B" (.ref t) ∧ RoadKit.Arv Z h' t kb .byte N (bs.map Value.int) (.int 0)
/-- **new String(chars) AT A CALL, FOR THE WRITER**: a char[] of n known ints, each 0 to 255 -/
theorem backV {p : Program} {l : Launch} {e : Env} {R : Room} {s : State} {args : Array Value} {below : List Frame} {len W : Nat} {Z : State} {a0 : Array Value} {h : Heap} (hZ : Z.Warmed39 s.vm) (hw : ∀ d ∈ words, d.before a0 Z = true) {kI : Nat} (wi : (Jvm.Cond.instantiable ST kI).before a0 Z = true)
    {x b : Addr} {kC : ClassId} {cs bs : List Int32} {d v0 c0 : Value} {z N : Int32} {n n0 : Nat} (hx0 : n0 ≤ x) (hh0 : n0 ≤ h.size) (E : RoadKit.Exa Z h x ST) (V : RoadKit.Fld Z h x ST "value" "[B" v0) (C : RoadKit.Fld Z h x ST "coder" "B" c0) (K : RoadKit.Arv Z h b kC .char N (cs.map Value.int) d) (S : RoadKit.Sta Z h ST "COMPACT_STRINGS" "Z" (.int z)) (hz : ¬ z = 0)
    (hn : cs.length = n) (hN : N = Int32.ofNat n) (l0 : 0 < n) (l2 : n ≤ 4000) (hp : ∀ c ∈ cs, ¬ c < 0 ∧ ¬ (255 : Int32) < c) (hb : bs = cs.map (fun c => c.toInt8.toInt32)) (hfr : 4 ≤ R.frames) (hlo : W + 65 ≤ R.locals) :
    Back l R p e below s args (⟨"java/lang/String", "<init>", "([C)V"⟩ : MethodName) len W (fun P a => a = #[.ref x, .ref b] ∧ P.U.heap = h ∧ P.cells + 1 ≤ R.cells ∧ P.slots + n ≤ R.slots)
      (fun P _ v B => ∃ L, QV Z x N bs h n0 v B.U.heap L ∧ B.locs = P.locs ++ L ∧ B.cells = P.cells + 1 ∧ B.slots = P.slots + n) := by
  subst hn hN hb
  refine Back.mono (backArv hZ hw wi E V C K S hz (n32 (by omega)) l0 (by omega) (fun c hc => (hp c hc).2) hfr hlo) (fun P a hp => hp) (fun P a v B hp hq => ?_)
  obtain ⟨L, ⟨q1, q2, q3, q4, q5, q6, q7, ⟨kb, v1, v2⟩, q9⟩, hl, hc, hs⟩ := hq
  exact ⟨L, ⟨q1, fun y hy => by rw [q2 y hy]; exact hx0, q3, q5, q7, h.size, kb, hh0, Nat.le_refl _, Nat.ne_of_gt E.lt, q6, by rw [List.map_map]; exact v2⟩, hl, hc, hs⟩
end StrChars.Road
end Jvm.Pilot.@@N@@
namespace Jvm.Pilot.@@N@@
open Jvm Jvm.ClassFile Sem Op Lib Jvm.Free Jvm.Stand Jvm.LawKit Jvm.RoadKit Bundle Jvm.Pilot.@@N@@.Jvm.D
section OwnPre
def Gl (tb : Tables) (e : Env) (below : List Frame) (P : State → Outcome → Prop) (T : State) (m : MethodId) (pc : Nat) (L : Array Slot) (S : List Value) : Prop := ∃ s₂ o, Steps tb e below (T.setTop (mkF m pc L S)) s₂ ∧ P s₂ o
def Wk (p : Program) (l : Launch) (e : Env) (R : Room) (s : State) (m : MethodId) (args : Array Value) (below : List Frame) (meth : Method) (c : Code) (own : String) (Z : State) (hb : Heap) (ws : List Addr) (I : Heap → Prop) (T : State) (h : Heap) (locs : List Loc) (cells slots : Nat) : Prop :=
  Stand p l e R s m args below meth c T locs cells slots ∧ p.tables.exec = Jvm.exec ∧ T.heap = h ∧ Z.Warmed39 s.vm ∧ s.vm.findClass own = some m.cls ∧ Old Z Z.heap.size h ∧ Fr Z.heap.size locs ∧ Keep hb h ws ∧ I h
variable {p : Program} {l : Launch} {e : Env} {R : Room} {s : State} {m : MethodId} {args : Array Value} {below : List Frame} {meth : Method} {c : Code} {T : State} {locs : List Loc} {cells slots cells' slots' : Nat} {Z : State} {a0 : Array Value} {h hb : Heap} {ws : List Addr} {own : String} {I : Heap → Prop} {P : State → Outcome → Prop} {pc pc' : Nat} {L L' : Array Slot} {S : List Value}
theorem Gl.st {tb : Tables} {T T' : State} {S' : List Value} (k : ∀ target, Steps tb e below (T'.setTop (mkF m pc' L' S')) target → Steps tb e below (T.setTop (mkF m pc L S)) target) (G : Gl tb e below P T' m pc' L' S') : Gl tb e below P T m pc L S := by
  obtain ⟨s2, o, h1, h2⟩ := G
  exact ⟨s2, o, k _ h1, h2⟩
theorem Gl.tr {tb : Tables} {T T' : State} {S' : List Value} (k : Steps tb e below (T.setTop (mkF m pc L S)) (T'.setTop (mkF m pc' L' S'))) (G : Gl tb e below P T' m pc' L' S') : Gl tb e below P T m pc L S := by
  obtain ⟨s2, o, h1, h2⟩ := G
  exact ⟨s2, o, k.trans h1, h2⟩
theorem Wk.ox (W : Wk p l e R s m args below meth c own Z hb ws I T h locs cells slots) : Ext Z.heap h := W.2.2.2.2.2.1.2
theorem Wk.old (W : Wk p l e R s m args below meth c own Z hb ws I T h locs cells slots) : Old Z Z.heap.size h := W.2.2.2.2.2.1
theorem Wk.keep (W : Wk p l e R s m args below meth c own Z hb ws I T h locs cells slots) : Keep hb h ws := W.2.2.2.2.2.2.2.1
theorem Wk.inv (W : Wk p l e R s m args below meth c own Z hb ws I T h locs cells slots) : I h := W.2.2.2.2.2.2.2.2
theorem Wk.zs (W : Wk p l e R s m args below meth c own Z hb ws I T h locs cells slots) : Z.heap.size ≤ h.size := W.ox.1
theorem Wk.al (W : Wk p l e R s m args below meth c own Z hb ws I T h locs cells slots) : Z.vm.Alike s.vm := W.2.2.2.1.alike
theorem own_ne {x b n : Nat} (h1 : x < n) (h2 : n ≤ b) : x ≠ b := Nat.ne_of_lt (Nat.lt_of_lt_of_le h1 h2)
theorem own_ne' {x b n : Nat} (h1 : x < n) (h2 : n ≤ b) : b ≠ x := Ne.symm (own_ne h1 h2)
theorem o_iloadN (W : Wk p l e R s m args below meth c own Z hb ws I T h locs cells slots) {k : Fin 4} {v : Int32} (hd : decode c.code pc = .ok (.iload_n k, 1)) (hl : L[k.val]? = some (.val (.int v))) (hp : pc + 1 = pc') (K : Gl p.tables e below P T m pc' L (.int v :: S)) : Gl p.tables e below P T m pc L S := by
  subst hp; exact Gl.st (fun _ q => XS.iloadN W.1.here W.2.1 rfl hd hl q) K
theorem o_iload (W : Wk p l e R s m args below meth c own Z hb ws I T h locs cells slots) {k : Nat} {v : Int32} (hd : decode c.code pc = .ok (.iload k, 2)) (hl : L[k]? = some (.val (.int v))) (hp : pc + 2 = pc') (K : Gl p.tables e below P T m pc' L (.int v :: S)) : Gl p.tables e below P T m pc L S := by
  subst hp; exact Gl.st (fun _ q => XS.iload W.1.here W.2.1 rfl hd hl q) K
theorem o_istoreN (W : Wk p l e R s m args below meth c own Z hb ws I T h locs cells slots) {k : Fin 4} {v : Int32} {L' : Array Slot} (hd : decode c.code pc = .ok (.istore_n k, 1)) (hl : storeLocals L k.val (.int v) = some L') (hp : pc + 1 = pc') (K : Gl p.tables e below P T m pc' L' S) : Gl p.tables e below P T m pc L (.int v :: S) := by
  subst hp; exact Gl.st (fun _ q => XS.istoreN W.1.here W.2.1 rfl hd rfl hl q) K
theorem o_istore (W : Wk p l e R s m args below meth c own Z hb ws I T h locs cells slots) {k : Nat} {v : Int32} {L' : Array Slot} (hd : decode c.code pc = .ok (.istore k, 2)) (hl : storeLocals L k (.int v) = some L') (hp : pc + 2 = pc') (K : Gl p.tables e below P T m pc' L' S) : Gl p.tables e below P T m pc L (.int v :: S) := by
  subst hp; exact Gl.st (fun _ q => XS.istore W.1.here W.2.1 rfl hd rfl hl q) K
theorem o_aloadN (W : Wk p l e R s m args below meth c own Z hb ws I T h locs cells slots) {k : Fin 4} {v : Value} (hd : decode c.code pc = .ok (.aload_n k, 1)) (hl : L[k.val]? = some (.val v)) (hv : v.isRef = true) (hp : pc + 1 = pc') (K : Gl p.tables e below P T m pc' L (v :: S)) : Gl p.tables e below P T m pc L S := by
  subst hp; exact Gl.st (fun _ q => XS.aloadN W.1.here W.2.1 rfl hd hl hv q) K
theorem o_aload (W : Wk p l e R s m args below meth c own Z hb ws I T h locs cells slots) {k : Nat} {v : Value} (hd : decode c.code pc = .ok (.aload k, 2)) (hl : L[k]? = some (.val v)) (hv : v.isRef = true) (hp : pc + 2 = pc') (K : Gl p.tables e below P T m pc' L (v :: S)) : Gl p.tables e below P T m pc L S := by
  subst hp; exact Gl.st (fun _ q => XS.aload W.1.here W.2.1 rfl hd hl hv q) K
theorem o_astoreN (W : Wk p l e R s m args below meth c own Z hb ws I T h locs cells slots) {k : Fin 4} {v : Value} {L' : Array Slot} (hd : decode c.code pc = .ok (.astore_n k, 1)) (hv : v.isRef = true) (hl : storeLocals L k.val v = some L') (hp : pc + 1 = pc') (K : Gl p.tables e below P T m pc' L' S) : Gl p.tables e below P T m pc L (v :: S) := by
  subst hp; exact Gl.st (fun _ q => XS.astoreN W.1.here W.2.1 rfl hd rfl hv hl q) K
theorem o_astore (W : Wk p l e R s m args below meth c own Z hb ws I T h locs cells slots) {k : Nat} {v : Value} {L' : Array Slot} (hd : decode c.code pc = .ok (.astore k, 2)) (hv : v.isRef = true) (hl : storeLocals L k v = some L') (hp : pc + 2 = pc') (K : Gl p.tables e below P T m pc' L' S) : Gl p.tables e below P T m pc L (v :: S) := by
  subst hp; exact Gl.st (fun _ q => XS.astore W.1.here W.2.1 rfl hd rfl hv hl q) K
theorem o_iconst (W : Wk p l e R s m args below meth c own Z hb ws I T h locs cells slots) {i : Int} {v : Int32} (hd : decode c.code pc = .ok (.iconst i, 1)) (hv : Int32.ofInt i = v) (hp : pc + 1 = pc') (K : Gl p.tables e below P T m pc' L (.int v :: S)) : Gl p.tables e below P T m pc L S := by
  subst hp; exact Gl.st (fun _ q => XT.iconstV W.1.here W.2.1 rfl v hd hv q) K
theorem o_bipush (W : Wk p l e R s m args below meth c own Z hb ws I T h locs cells slots) {i : Int} {v : Int32} (hd : decode c.code pc = .ok (.bipush i, 2)) (hv : (Int8.ofInt i).toInt32 = v) (hp : pc + 2 = pc') (K : Gl p.tables e below P T m pc' L (.int v :: S)) : Gl p.tables e below P T m pc L S := by
  subst hp; exact Gl.st (fun _ q => XT.bipushV W.1.here W.2.1 rfl v hd hv q) K
theorem o_sipush (W : Wk p l e R s m args below meth c own Z hb ws I T h locs cells slots) {i : Int} {v : Int32} (hd : decode c.code pc = .ok (.sipush i, 3)) (hv : (Int16.ofInt i).toInt32 = v) (hp : pc + 3 = pc') (K : Gl p.tables e below P T m pc' L (.int v :: S)) : Gl p.tables e below P T m pc L S := by
  subst hp; exact Gl.st (fun _ q => XT.sipushV W.1.here W.2.1 rfl v hd hv q) K
theorem o_aconstNull (W : Wk p l e R s m args below meth c own Z hb ws I T h locs cells slots)  (hd : decode c.code pc = .ok (.aconst_null, 1)) (hp : pc + 1 = pc') (K : Gl p.tables e below P T m pc' L (.null :: S)) : Gl p.tables e below P T m pc L S := by
  subst hp; exact Gl.st (fun _ q => XS.aconstNull W.1.here W.2.1 rfl hd q) K
theorem o_iadd (W : Wk p l e R s m args below meth c own Z hb ws I T h locs cells slots) {x y v : Int32} (hd : decode c.code pc = .ok (.iadd, 1)) (hv : x + y = v) (hp : pc + 1 = pc') (K : Gl p.tables e below P T m pc' L (.int v :: S)) : Gl p.tables e below P T m pc L (.int y :: .int x :: S) := by
  subst hp; exact Gl.st (fun _ q => XS.iadd W.1.here W.2.1 rfl hd rfl (by rw [hv]; exact q)) K
theorem o_isub (W : Wk p l e R s m args below meth c own Z hb ws I T h locs cells slots) {x y v : Int32} (hd : decode c.code pc = .ok (.isub, 1)) (hv : x - y = v) (hp : pc + 1 = pc') (K : Gl p.tables e below P T m pc' L (.int v :: S)) : Gl p.tables e below P T m pc L (.int y :: .int x :: S) := by
  subst hp; exact Gl.st (fun _ q => XS.isub W.1.here W.2.1 rfl hd rfl (by rw [hv]; exact q)) K
theorem o_iand (W : Wk p l e R s m args below meth c own Z hb ws I T h locs cells slots) {x y v : Int32} (hd : decode c.code pc = .ok (.iand, 1)) (hv : x &&& y = v) (hp : pc + 1 = pc') (K : Gl p.tables e below P T m pc' L (.int v :: S)) : Gl p.tables e below P T m pc L (.int y :: .int x :: S) := by
  subst hp; exact Gl.st (fun _ q => XS.iand W.1.here W.2.1 rfl hd rfl (by rw [hv]; exact q)) K
theorem o_ishl (W : Wk p l e R s m args below meth c own Z hb ws I T h locs cells slots) {x v : Int32} {y : Int32} (hd : decode c.code pc = .ok (.ishl, 1)) (hv : x <<< (y &&& 31) = v) (hp : pc + 1 = pc') (K : Gl p.tables e below P T m pc' L (.int v :: S)) : Gl p.tables e below P T m pc L (.int y :: .int x :: S) := by
  subst hp; exact Gl.st (fun _ q => XS.ishl W.1.here W.2.1 rfl hd rfl (by rw [hv]; exact q)) K
theorem o_ishr (W : Wk p l e R s m args below meth c own Z hb ws I T h locs cells slots) {x v : Int32} {y : Int32} (hd : decode c.code pc = .ok (.ishr, 1)) (hv : x >>> (y &&& 31) = v) (hp : pc + 1 = pc') (K : Gl p.tables e below P T m pc' L (.int v :: S)) : Gl p.tables e below P T m pc L (.int y :: .int x :: S) := by
  subst hp; exact Gl.st (fun _ q => XS.ishr W.1.here W.2.1 rfl hd rfl (by rw [hv]; exact q)) K
theorem o_i2c (W : Wk p l e R s m args below meth c own Z hb ws I T h locs cells slots) {x : Int32} {v : Int32} (hd : decode c.code pc = .ok (.i2c, 1)) (hv : x.toUInt32.toUInt16.toUInt32.toInt32 = v) (hp : pc + 1 = pc') (K : Gl p.tables e below P T m pc' L (.int v :: S)) : Gl p.tables e below P T m pc L (.int x :: S) := by
  subst hp; exact Gl.st (fun _ q => XS.i2c W.1.here W.2.1 rfl hd rfl (by rw [hv]; exact q)) K
theorem o_iinc (W : Wk p l e R s m args below meth c own Z hb ws I T h locs cells slots) {k : Nat} {i : Int} {x v : Int32} {L' : Array Slot} (hd : decode c.code pc = .ok (.iinc k i, 3)) (hl : L[k]? = some (.val (.int x))) (hv : x + Int32.ofInt i = v) (hl' : storeLocals L k (.int v) = some L') (hp : pc + 3 = pc') (K : Gl p.tables e below P T m pc' L' S) : Gl p.tables e below P T m pc L S := by
  subst hp; exact Gl.st (fun _ q => XS.iinc W.1.here W.2.1 rfl hd hl (by rw [hv]; exact hl') q) K
theorem o_dup (W : Wk p l e R s m args below meth c own Z hb ws I T h locs cells slots) {x : Value} (hd : decode c.code pc = .ok (.dup, 1)) (hc : x.category = 1) (hp : pc + 1 = pc') (K : Gl p.tables e below P T m pc' L (x :: x :: S)) : Gl p.tables e below P T m pc L (x :: S) := by
  subst hp; exact Gl.st (fun _ q => XS.dup W.1.here W.2.1 rfl hd rfl hc q) K
theorem o_pop (W : Wk p l e R s m args below meth c own Z hb ws I T h locs cells slots) {x : Value} (hd : decode c.code pc = .ok (.pop, 1)) (hc : x.category = 1) (hp : pc + 1 = pc') (K : Gl p.tables e below P T m pc' L S) : Gl p.tables e below P T m pc L (x :: S) := by
  subst hp; exact Gl.st (fun _ q => XS.pop W.1.here W.2.1 rfl hd rfl hc q) K
theorem o_goto (W : Wk p l e R s m args below meth c own Z hb ws I T h locs cells slots) {o : Int} (hd : decode c.code pc = .ok (.goto o, 3)) (ho : 0 ≤ (pc : Int) + o) (hp : ((pc : Int) + o).toNat = pc') (K : Gl p.tables e below P T m pc' L S) : Gl p.tables e below P T m pc L S := by
  exact Gl.st (fun _ q => XS.goto W.1.here W.2.1 rfl (pc0 := pc) rfl hd ho hp q) K
theorem o_ifY (W : Wk p l e R s m args below meth c own Z hb ws I T h locs cells slots) {o : Int} {cd : ClassFile.Cond} {x : Int32} (hd : decode c.code pc = .ok (.ifCond cd o, 3)) (hc : ifCond.holds cd x = true) (ho : 0 ≤ (pc : Int) + o) (hp : ((pc : Int) + o).toNat = pc') (K : Gl p.tables e below P T m pc' L S) : Gl p.tables e below P T m pc L (.int x :: S) := by
  exact Gl.st (fun _ q => XS.ifYes W.1.here W.2.1 rfl (pc0 := pc) rfl hd rfl hc ho hp q) K
theorem o_ifN (W : Wk p l e R s m args below meth c own Z hb ws I T h locs cells slots) {o : Int} {cd : ClassFile.Cond} {x : Int32} (hd : decode c.code pc = .ok (.ifCond cd o, 3)) (hc : ifCond.holds cd x = false) (hp : pc + 3 = pc') (K : Gl p.tables e below P T m pc' L S) : Gl p.tables e below P T m pc L (.int x :: S) := by
  subst hp; exact Gl.st (fun _ q => XS.ifNo W.1.here W.2.1 rfl hd rfl hc q) K
theorem o_icmpY (W : Wk p l e R s m args below meth c own Z hb ws I T h locs cells slots) {o : Int} {cd : ClassFile.Cond} {x y : Int32} (hd : decode c.code pc = .ok (.if_icmp cd o, 3)) (hc : if_icmp.holds cd x y = true) (ho : 0 ≤ (pc : Int) + o) (hp : ((pc : Int) + o).toNat = pc') (K : Gl p.tables e below P T m pc' L S) : Gl p.tables e below P T m pc L (.int y :: .int x :: S) := by
  exact Gl.st (fun _ q => XS.icmpYes W.1.here W.2.1 rfl (pc0 := pc) rfl hd rfl hc ho hp q) K
theorem o_icmpN (W : Wk p l e R s m args below meth c own Z hb ws I T h locs cells slots) {o : Int} {cd : ClassFile.Cond} {x y : Int32} (hd : decode c.code pc = .ok (.if_icmp cd o, 3)) (hc : if_icmp.holds cd x y = false) (hp : pc + 3 = pc') (K : Gl p.tables e below P T m pc' L S) : Gl p.tables e below P T m pc L (.int y :: .int x :: S) := by
  subst hp; exact Gl.st (fun _ q => XS.icmpNo W.1.here W.2.1 rfl hd rfl hc q) K
theorem o_ifnonnullY (W : Wk p l e R s m args below meth c own Z hb ws I T h locs cells slots) {o : Int} {b : Addr} (hd : decode c.code pc = .ok (.ifnonnull o, 3)) (ho : 0 ≤ (pc : Int) + o) (hp : ((pc : Int) + o).toNat = pc') (K : Gl p.tables e below P T m pc' L S) : Gl p.tables e below P T m pc L (.ref b :: S) := by
  exact Gl.st (fun _ q => XS.ifnonnullYes W.1.here W.2.1 rfl (pc0 := pc) rfl hd rfl ho hp q) K
theorem o_acmpY (W : Wk p l e R s m args below meth c own Z hb ws I T h locs cells slots) {o : Int} {cd : ClassFile.ACond} {x y : Value} (hd : decode c.code pc = .ok (.if_acmp cd o, 3)) (h1 : x.isRef = true) (h2 : y.isRef = true) (hc : XT.acmp cd x y = true) (ho : 0 ≤ (pc : Int) + o) (hp : ((pc : Int) + o).toNat = pc') (K : Gl p.tables e below P T m pc' L S) : Gl p.tables e below P T m pc L (y :: x :: S) := by
  exact Gl.st (fun _ q => XT.acmpYes W.1.here W.2.1 rfl (pc0 := pc) rfl hd rfl h1 h2 hc ho hp q) K
theorem o_getF (W : Wk p l e R s m args below meth c own Z hb ws I T h locs cells slots) {R0 O n d : String} {index : Nat} (w : (Cond.fieldLink own index R0 n d).before a0 Z = true) (via : Via Z R0 O n d) {a : Addr} {v : Value} (F : Fld Z h a O n d v) (hd : decode c.code pc = .ok (.getfield index, 3)) (hp : pc + 3 = pc')
    (K : ∀ T', Wk p l e R s m args below meth c own Z hb ws I T' h locs cells slots → Gl p.tables e below P T' m pc' L (v :: S)) : Gl p.tables e below P T m pc L (.ref a :: S) := by
  subst hp
  obtain ⟨X, hx, eT, hZ, ho, r⟩ := W
  obtain ⟨T', X', e', st⟩ := getF X hx hZ ho (host := "") (Or.inl w) via eT F (g := mkF m pc L (.ref a :: S)) rfl rfl hd
  exact Gl.st st (K T' ⟨X', hx, e', hZ, ho, r⟩)
theorem o_getS (W : Wk p l e R s m args below meth c own Z hb ws I T h locs cells slots) {R0 O n d : String} {index : Nat} (w : (Cond.fieldLink own index R0 n d).before a0 Z = true) (via : Via Z R0 O n d) {v : Value} (F : Sta Z h O n d v) (hd : decode c.code pc = .ok (.getstatic index, 3)) (hp : pc + 3 = pc')
    (K : ∀ T', Wk p l e R s m args below meth c own Z hb ws I T' h locs cells slots → Gl p.tables e below P T' m pc' L (v :: S)) : Gl p.tables e below P T m pc L S := by
  subst hp
  obtain ⟨X, hx, eT, hZ, ho, r⟩ := W
  obtain ⟨T', X', e', st⟩ := getS (host := "") X hx hZ ho w via eT F (g := mkF m pc L S) rfl hd
  exact Gl.st st (K T' ⟨X', hx, e', hZ, ho, r⟩)
theorem o_putF (W : Wk p l e R s m args below meth c own Z hb ws I T h locs cells slots) {R0 O n d C : String} {index kk : Nat} {ty : FieldType} (w : (Cond.fieldLink own index R0 n d).before a0 Z = true) (via : Via Z R0 O n d) {a : Addr} {v v' old : Value} (F : Fld Z h a O n d old) (E : Exa Z h a C)
    (Lz : (Cond.lays C O n d).before a0 Z = true ∨ ((Cond.laysFinal C O n d).before a0 Z = true ∧ own = O ∧ meth.name = "<init>")) (wi : (Cond.instantiable C kk).before a0 Z = true) (hty : parseFieldDescriptor d = some ty) (hn : narrow ty v = v') (hf : fits ty v' = true)
    (g1 : Z.heap.size ≤ a) (g2 : a ∈ ws ∨ hb.size ≤ a) (hI : ∀ h', Wr h h' a (Jvm.RoadKit.slotOf Z O n d) v' → I h') (hd : decode c.code pc = .ok (.putfield index, 3)) (hp : pc + 3 = pc')
    (K : ∀ T' h' locs', Wk p l e R s m args below meth c own Z hb ws I T' h' locs' cells slots → Wr h h' a (Jvm.RoadKit.slotOf Z O n d) v' → Gl p.tables e below P T' m pc' L S) : Gl p.tables e below P T m pc L (v :: .ref a :: S) := by
  subst hp
  obtain ⟨X, hx, eT, hZ, ho, o, fr, kp, i⟩ := W
  obtain ⟨T', h', X', e', Wr', st⟩ := putFN X hx hZ ho w via eT F E Lz wi hty hn hf (g := mkF m pc L (v :: .ref a :: S)) rfl rfl hd
  exact Gl.st st (K T' h' _ ⟨X', hx, e', hZ, ho, o.wr Wr' g1, Fr.snoc X' fr g1, kp.wr Wr' g2, hI _ Wr'⟩ Wr')
theorem o_new (W : Wk p l e R s m args below meth c own Z hb ws I T h locs cells slots) {C : String} {index n : Nat} (w : (Cond.classLink own index C).before a0 Z = true) (wi : (Cond.instantiable C n).before a0 Z = true) (wz : (Cond.initialized C).before a0 Z = true) (hI : ∀ h', Ext h h' → I h')
    (hd : decode c.code pc = .ok (.new index, 3)) (hp : pc + 3 = pc') (hc' : cells + 1 = cells') (hs' : slots + n = slots') (hc : cells' ≤ R.cells) (hs : slots' ≤ R.slots)
    (K : ∀ b T' h', Wk p l e R s m args below meth c own Z hb ws I T' h' locs cells' slots' → Ext h h' → h.size ≤ b → Z.heap.size ≤ b → hb.size ≤ b → Exa Z h' b C → (∀ {O nm d : String} {ty : FieldType}, Laid Z a0 C O nm d → parseFieldDescriptor d = some ty → Fld Z h' b O nm d (defaultValue ty)) → Gl p.tables e below P T' m pc' L (.ref b :: S)) : Gl p.tables e below P T m pc L S := by
  subst hp hc' hs'
  obtain ⟨X, hx, eT, hZ, ho, o, fr, kp, i⟩ := W
  obtain ⟨T', h', X', e', E, A, D, -, st⟩ := newO X hx hZ ho w wi wz eT (g := mkF m pc L S) rfl hd hc hs
  exact Gl.st st (K _ T' h' ⟨X', hx, e', hZ, ho, o.ext E, fr, kp.ext E, hI _ E⟩ E (Nat.le_refl _) o.2.1 kp.1 A D)
theorem o_newP (W : Wk p l e R s m args below meth c own Z hb ws I T h locs cells slots) {aty : ArrayType} (w : (Cond.arrayClass (newarray.typeOf aty)).before a0 Z = true) (hI : ∀ h', Ext h h' → I h') {n : Int32} (hn : ¬ n < 0) {cap : Nat} (hcap : n.toNatClampNeg ≤ cap) (hb8 : cap * 8 ≤ 536870912)
    (hd : decode c.code pc = .ok (.newarray aty, 2)) (hp : pc + 2 = pc') (hc' : cells + 1 = cells') (hs' : slots + cap = slots') (hc : cells' ≤ R.cells) (hs : slots' ≤ R.slots) {vs : List Value} {dv : Value} (hdv : defaultValue (newarray.typeOf aty) = dv) (hv : vs = List.replicate vs.length dv)
    (K : ∀ b T' h' k, Wk p l e R s m args below meth c own Z hb ws I T' h' locs cells' slots' → Ext h h' → h.size ≤ b → Z.heap.size ≤ b → hb.size ≤ b → Arv Z h' b k (newarray.typeOf aty) n vs dv → Gl p.tables e below P T' m pc' L (.ref b :: S)) : Gl p.tables e below P T m pc L (.int n :: S) := by
  subst hp hc' hs' hdv
  obtain ⟨X, hx, eT, hZ, ho, o, fr, kp, i⟩ := W
  obtain ⟨T', h', k, X', e', E, A, st⟩ := newP X hx hZ w eT (g := mkF m pc L (.int n :: S)) rfl hd rfl hn hcap hb8 hc hs
  exact Gl.st st (K _ T' h' k ⟨X', hx, e', hZ, ho, o.ext E, fr, kp.ext E, hI _ E⟩ E (Nat.le_refl _) o.2.1 kp.1 ((Arv.new A hn).pad (by rw [hv]; exact pad_rep [] _ _)))
theorem o_len (W : Wk p l e R s m args below meth c own Z hb ws I T h locs cells slots) {a : Addr} {k : ClassId} {ty : FieldType} {z : Int32} {vs : List Value} {dv : Value} (V : Arv Z h a k ty z vs dv) (hd : decode c.code pc = .ok (.arraylength, 1)) (hp : pc + 1 = pc')
    (K : Gl p.tables e below P T m pc' L (.int z :: S)) : Gl p.tables e below P T m pc L (.ref a :: S) := by
  subst hp
  obtain ⟨X, hx, eT, hZ, ho, r⟩ := W
  obtain ⟨cl, A, -, Sz, N, -⟩ := V
  refine Gl.st (X.arraylength hx (by rw [eT]; exact A.1) (State.isArrayOf_alike hZ.alike A.2.1) (g := mkF m pc L (.ref a :: S)) rfl rfl hd) ?_
  rw [len_of Sz N]; exact K
theorem own_inb {z j : Int32} {c : Cell} {i : Nat} (Sz : c.slots.size = z.toNatClampNeg) (hj : j.toNatClampNeg = i) (hj0 : ¬ j < 0) (hi : i < z.toNatClampNeg) : ¬ (j < 0 ∨ c.slots.size ≤ j.toNatClampNeg) := by
  rintro (q | q)
  · exact hj0 q
  · rw [Sz, hj] at q; omega
theorem o_stC (W : Wk p l e R s m args below meth c own Z hb ws I T h locs cells slots) {a : Addr} {k : ClassId} {z : Int32} {vs vs' : List Value} {dv : Value} (V : Arv Z h a k .char z vs dv) {j x x' : Int32} {i : Nat} (hj : j.toNatClampNeg = i) (hj0 : ¬ j < 0) (hi : i < z.toNatClampNeg) (hi' : i < vs.length) (hx' : nar .char x = x') (hv : vs.set i (.int x') = vs')
    (g1 : Z.heap.size ≤ a) (g2 : a ∈ ws ∨ hb.size ≤ a) (hI : ∀ h', Wr h h' a i (.int x') → I h') (hd : decode c.code pc = .ok (.castore, 1)) (hp : pc + 1 = pc')
    (K : ∀ T' h' locs', Wk p l e R s m args below meth c own Z hb ws I T' h' locs' cells slots → Wr h h' a i (.int x') → Arv Z h' a k .char z vs' dv → Gl p.tables e below P T' m pc' L S) : Gl p.tables e below P T m pc L (.int x :: .int j :: .ref a :: S) := by
  subst hp hx' hv
  obtain ⟨X, hx, eT, hZ, ho, o, fr, kp, i'⟩ := W
  obtain ⟨cl, A, q, Sz, N, H, G⟩ := V
  obtain ⟨T', h', X', e', Wr', st⟩ := stC X hx hZ eT A (own_inb Sz hj hj0 hi) (g := mkF m pc L (.int x :: .int j :: .ref a :: S)) rfl rfl hd
  have V' := Arv.set A q Sz N H G (fits_nar_char x) Wr' i hj hi'
  subst hj
  exact Gl.st st (K T' h' _ ⟨X', hx, e', hZ, ho, o.wr Wr' g1, Fr.snoc X' fr g1, kp.wr Wr' g2, hI _ Wr'⟩ Wr' V')
theorem o_baload (W : Wk p l e R s m args below meth c own Z hb ws I T h locs cells slots) {a : Addr} {k : ClassId} {z : Int32} {vs : List Value} {dv : Value} (V : Arv Z h a k .byte z vs dv) {j x : Int32} {i : Nat} (hj : j.toNatClampNeg = i) (hj0 : ¬ j < 0) (hi : i < z.toNatClampNeg) (hv : vs.getD i dv = .int x) (hd : decode c.code pc = .ok (.baload, 1)) (hp : pc + 1 = pc')
    (K : Gl p.tables e below P T m pc' L (.int x :: S)) : Gl p.tables e below P T m pc L (.int j :: .ref a :: S) := by
  subst hp hj
  obtain ⟨X, hx, eT, hZ, ho, r⟩ := W
  obtain ⟨cl, A, -, Sz, N, H, -⟩ := V
  have hin := own_inb Sz rfl hj0 hi
  exact Gl.st (X.baloadBytes hx (by rw [eT]; exact A.1) (State.isArrayOf_alike hZ.alike A.2.1) A.2.2 hin (H.at hin hv) (g := mkF m pc L (.int j :: .ref a :: S)) rfl rfl hd) K
theorem o_cast (W : Wk p l e R s m args below meth c own Z hb ws I T h locs cells slots) {K0 : String} {index : Nat} (w : (Cond.classLink own index K0).before a0 Z = true) {a : Addr} (F : Ins Z h a K0 true) (hd : decode c.code pc = .ok (.checkcast index, 3)) (hp : pc + 3 = pc')
    (K : ∀ T', Wk p l e R s m args below meth c own Z hb ws I T' h locs cells slots → Gl p.tables e below P T' m pc' L (.ref a :: S)) : Gl p.tables e below P T m pc L (.ref a :: S) := by
  subst hp
  obtain ⟨X, hx, eT, hZ, ho, r⟩ := W
  obtain ⟨T', X', e', st⟩ := castY X hx hZ ho w eT F (g := mkF m pc L (.ref a :: S)) rfl rfl hd
  exact Gl.st st (K T' ⟨X', hx, e', hZ, ho, r⟩)
theorem o_instY (W : Wk p l e R s m args below meth c own Z hb ws I T h locs cells slots) {K0 : String} {index : Nat} (w : (Cond.classLink own index K0).before a0 Z = true) {a : Addr} (F : Ins Z h a K0 true) (hd : decode c.code pc = .ok (.instanceof index, 3)) (hp : pc + 3 = pc')
    (K : ∀ T', Wk p l e R s m args below meth c own Z hb ws I T' h locs cells slots → Gl p.tables e below P T' m pc' L (.int 1 :: S)) : Gl p.tables e below P T m pc L (.ref a :: S) := by
  subst hp
  obtain ⟨X, hx, eT, hZ, ho, r⟩ := W
  obtain ⟨T', X', e', st⟩ := instY X hx hZ ho w eT F (g := mkF m pc L (.ref a :: S)) rfl rfl hd
  exact Gl.st st (K T' ⟨X', hx, e', hZ, ho, r⟩)
theorem o_initO (W : Wk p l e R s m args below meth c own Z hb ws I T h locs cells slots) {idx : Nat} (w1 : (Cond.methodLink own idx Lib.objectInit).before a0 Z = true) (w2 : (Cond.instanceMethod Lib.objectInit).before a0 Z = true) (w3 : (Cond.code Lib.objectInit ⟨#[0xb1]⟩ 1 none).before a0 Z = true) {a : Addr} (hml : L.size = c.maxLocals)
    (hd : decode c.code pc = .ok (.invokespecial idx, 3)) (hp : pc + 3 = pc') (hf : 1 ≤ R.frames) (Wd : Nat) (hW : 2 * 0 + (S.map fun v => v.category).sum ≤ Wd) (hl : Wd + 12 ≤ R.locals)
    (K : ∀ T', Wk p l e R s m args below meth c own Z hb ws I T' h locs cells slots → Gl p.tables e below P T' m pc' L S) : Gl p.tables e below P T m pc L (.ref a :: S) := by
  subst hp
  obtain ⟨X, hx, eT, hZ, ho, r⟩ := W
  obtain ⟨T', X', e', st⟩ := initO X hx hZ ho w1 w2 w3 eT (g := mkF m pc L (.ref a :: S)) rfl hml rfl hd hf hW hl
  exact Gl.st st (K T' ⟨X', hx, e', hZ, ho, r⟩)
abbrev BackQ (l : Launch) (R : Room) (p : Program) (e : Env) (below : List Frame) (s : State) (args : Array Value) (y : MethodName) (len Wd : Nat) (as' : Array Value) (h : Heap) (kc ks : Nat) (Q : Option Value → Heap → List Loc → Prop) : Prop :=
  Back l R p e below s args y len Wd (fun A a => a = as' ∧ A.U.heap = h ∧ A.cells + kc ≤ R.cells ∧ A.slots + ks ≤ R.slots) (fun A _ v B => ∃ L, Q v B.U.heap L ∧ B.locs = A.locs ++ L ∧ B.cells = A.cells + kc ∧ B.slots = A.slots + ks)
theorem o_after (W : Wk p l e R s m args below meth c own Z hb ws I T h locs cells slots) {B : Pt} {v : Option Value} {kc ks : Nat} {Q : Option Value → Heap → List Loc → Prop} {wy : List Addr} (X' : Stand p l e R s m args below meth c B.U B.locs B.cells B.slots) (hpost : ∃ L, Q v B.U.heap L ∧ B.locs = locs ++ L ∧ B.cells = cells + kc ∧ B.slots = slots + ks)
    (hq : ∀ v hh L, Q v hh L → Fr Z.heap.size L ∧ Keep h hh wy) (hg : ∀ x ∈ wy, Z.heap.size ≤ x ∧ (x ∈ ws ∨ hb.size ≤ x)) (hI : ∀ h', Keep h h' wy → I h') :
    ∃ L, Q v B.U.heap L ∧ Keep h B.U.heap wy ∧ Wk p l e R s m args below meth c own Z hb ws I B.U B.U.heap (locs ++ L) (cells + kc) (slots + ks) := by
  obtain ⟨X, hx, eT, hZ, ho, o, fr, kp, i⟩ := W
  obtain ⟨⟨U, lo, kc', ks'⟩, rfl⟩ : ∃ B', B' = B := ⟨_, rfl⟩
  obtain ⟨L', q, e1, e2, e3⟩ := hpost
  have e1 : lo = locs ++ L' := e1
  have e2 : kc' = cells + kc := e2
  have e3 : ks' = slots + ks := e3
  subst e1 e2 e3
  obtain ⟨f, k⟩ := hq _ _ _ q
  exact ⟨L', q, k, X', hx, rfl, hZ, ho, o.keep k (fun x hx => (hg x hx).1), fr.app f, kp.trans k (fun x hx => (hg x hx).2), hI _ k⟩
theorem o_static (W : Wk p l e R s m args below meth c own Z hb ws I T h locs cells slots) {index : Nat} {y : MethodName} {bytes : ByteArray} {maxL : Nat} {ret : Option FieldType} (w1 : (Cond.methodLink own index y).before a0 Z = true) (w2 : (Cond.static y).before a0 Z = true) (w3 : (Cond.initialized y.cls).before a0 Z = true) (w4 : (Cond.code y bytes maxL ret).before a0 Z = true)
    (hy : y.cls ≠ "java/lang/invoke/MethodHandle" ∧ y.cls ≠ "java/lang/invoke/VarHandle") {Wd kc ks : Nat} {Q : Option Value → Heap → List Loc → Prop} {argsL : List Value} (B : BackQ l R p e below s args y 3 Wd argsL.toArray h kc ks Q) (hml : L.size = c.maxLocals)
    (hlen : ∀ sig, parseMethodDescriptor y.desc = some sig → argsL.length = sig.parameters.length) {S0 : List Value} (hS : S0 = argsL.reverse ++ S) (hW : 2 * 0 + (S.map fun v => v.category).sum ≤ Wd) (hd : decode c.code pc = .ok (.invokestatic index, 3)) (hp : pc + 3 = pc')
    (hc' : cells + kc = cells') (hs' : slots + ks = slots') (hc : cells' ≤ R.cells) (hs : slots' ≤ R.slots) {wy : List Addr} (hq : ∀ v hh L, Q v hh L → Fr Z.heap.size L ∧ Keep h hh wy) (hg : ∀ x ∈ wy, Z.heap.size ≤ x ∧ (x ∈ ws ∨ hb.size ≤ x)) (hI : ∀ h', Keep h h' wy → I h')
    (K : ∀ v T' h' Lc, Wk p l e R s m args below meth c own Z hb ws I T' h' (locs ++ Lc) cells' slots' → Keep h h' wy → Q v h' Lc → Gl p.tables e below P T' m pc' L (v.toList ++ S)) : Gl p.tables e below P T m pc L S0 := by
  subst hp hc' hs' hS
  obtain ⟨v, vm₁, B', -, X', hpost, st⟩ := Jvm.LawKit.callS W.1 W.2.1 W.2.2.2.2.1 (mvT W.2.2.2.1 w1) (mvT W.2.2.2.1 w2) (mvT W.2.2.2.1 w3) (mvT W.2.2.2.1 w4) hy B (g := mkF m pc L (argsL.reverse ++ S)) rfl hml hlen rfl hW hd (fun _ _ => ⟨rfl, W.2.2.1, hc, hs⟩)
  obtain ⟨Lc, q, k, W'⟩ := o_after W X' hpost hq hg hI
  exact Gl.st st (K v _ _ Lc W' k q)
theorem o_special (W : Wk p l e R s m args below meth c own Z hb ws I T h locs cells slots) {index : Nat} {y : MethodName} {bytes : ByteArray} {maxL : Nat} (hy1 : y.name = "<init>") (w1 : (Cond.methodLink own index y).before a0 Z = true) (w2 : (Cond.instanceMethod y).before a0 Z = true) (w4 : (Cond.code y bytes maxL none).before a0 Z = true)
    (hy : y.cls ≠ "java/lang/invoke/MethodHandle" ∧ y.cls ≠ "java/lang/invoke/VarHandle") {Wd kc ks : Nat} {Q : Option Value → Heap → List Loc → Prop} {a : Addr} {argsL : List Value} (B : BackQ l R p e below s args y 3 Wd (.ref a :: argsL).toArray h kc ks Q) (hml : L.size = c.maxLocals)
    (hlen : ∀ sig, parseMethodDescriptor y.desc = some sig → argsL.length = sig.parameters.length) {S0 : List Value} (hS : S0 = argsL.reverse ++ .ref a :: S) (hW : 2 * 0 + (S.map fun v => v.category).sum ≤ Wd) (hd : decode c.code pc = .ok (.invokespecial index, 3)) (hp : pc + 3 = pc')
    (hc' : cells + kc = cells') (hs' : slots + ks = slots') (hc : cells' ≤ R.cells) (hs : slots' ≤ R.slots) {wy : List Addr} (hq : ∀ v hh L, Q v hh L → Fr Z.heap.size L ∧ Keep h hh wy) (hg : ∀ x ∈ wy, Z.heap.size ≤ x ∧ (x ∈ ws ∨ hb.size ≤ x)) (hI : ∀ h', Keep h h' wy → I h')
    (K : ∀ v T' h' Lc, Wk p l e R s m args below meth c own Z hb ws I T' h' (locs ++ Lc) cells' slots' → Keep h h' wy → Q v h' Lc → Gl p.tables e below P T' m pc' L (v.toList ++ S)) : Gl p.tables e below P T m pc L S0 := by
  subst hp hc' hs' hS
  obtain ⟨v, vm₁, B', -, X', hpost, st⟩ := W.1.specialBack W.2.1 hy1 W.2.2.2.2.1 (mvT W.2.2.2.1 w1) (mvT W.2.2.2.1 w2) (mvT W.2.2.2.1 w4) hy B (g := mkF m pc L (argsL.reverse ++ .ref a :: S)) rfl hml (Steps.refl _) hlen rfl hW hd (fun _ _ => ⟨rfl, W.2.2.1, hc, hs⟩)
  obtain ⟨Lc, q, k, W'⟩ := o_after W X' hpost hq hg hI
  exact Gl.tr st (K v _ _ Lc W' k q)
theorem o_virtual (W : Wk p l e R s m args below meth c own Z hb ws I T h locs cells slots) {index : Nat} {C : String} {y z : MethodName} (w1 : (Cond.methodLink own index y).before a0 Z = true) (w2 : (Cond.declares y).before a0 Z = true) (hnf : NotFace s y) (w3 : (Cond.selects C y z).before a0 Z = true) (w4 : (Cond.instanceMethod z).before a0 Z = true)
    (hy : y.cls ≠ "java/lang/invoke/MethodHandle" ∧ y.cls ≠ "java/lang/invoke/VarHandle") {Wd kc ks : Nat} {Q : Option Value → Heap → List Loc → Prop} {a : Addr} (E : Exa Z h a C) {argsL : List Value} (B : BackQ l R p e below s args z 3 Wd (.ref a :: argsL).toArray h kc ks Q) (hml : L.size = c.maxLocals)
    (hlen : ∀ sig, parseMethodDescriptor y.desc = some sig → argsL.length = sig.parameters.length) {S0 : List Value} (hS : S0 = argsL.reverse ++ .ref a :: S) (hW : 2 * 0 + (S.map fun v => v.category).sum ≤ Wd) (hd : decode c.code pc = .ok (.invokevirtual index, 3)) (hp : pc + 3 = pc')
    (hc' : cells + kc = cells') (hs' : slots + ks = slots') (hc : cells' ≤ R.cells) (hs : slots' ≤ R.slots) {wy : List Addr} (hq : ∀ v hh L, Q v hh L → Fr Z.heap.size L ∧ Keep h hh wy) (hg : ∀ x ∈ wy, Z.heap.size ≤ x ∧ (x ∈ ws ∨ hb.size ≤ x)) (hI : ∀ h', Keep h h' wy → I h')
    (K : ∀ v T' h' Lc, Wk p l e R s m args below meth c own Z hb ws I T' h' (locs ++ Lc) cells' slots' → Keep h h' wy → Q v h' Lc → Gl p.tables e below P T' m pc' L (v.toList ++ S)) : Gl p.tables e below P T m pc L S0 := by
  subst hp hc' hs' hS
  obtain ⟨cB, kB, q1, q2, q3⟩ := isOf W.2.2.2.1 W.2.2.1 E
  obtain ⟨v, vm₁, B', -, X', hpost, st⟩ := W.1.virtualBack W.2.1 W.2.2.2.2.1 (mvT W.2.2.2.1 w1) (mvT W.2.2.2.1 w2) hnf (mvT W.2.2.2.1 w3) (mvT W.2.2.2.1 w4) hy B q1 q3 (g := mkF m pc L (argsL.reverse ++ .ref a :: S)) rfl hml (Steps.refl _) hlen rfl hW hd (fun _ _ => ⟨rfl, W.2.2.1, hc, hs⟩)
  obtain ⟨Lc, q, k, W'⟩ := o_after W X' hpost hq hg hI
  exact Gl.tr st (K v _ _ Lc W' k q)
theorem o_nf (W : Wk p l e R s m args below meth c own Z hb ws I T h locs cells slots) {C : String} {y z : MethodName} (hyz : y = z) (w : (Cond.selects C y z).before a0 Z = true) : NotFace s y := by
  subst hyz
  exact notFace_of_selects (args := #[]) (mvT W.2.2.2.1 w)
def CtrN (l : Launch) (Z : State) (y : MethodName) (bytes : ByteArray) (maxL : Nat) (ret : Option FieldType) (xs : List Jvm.Cond) (rm : Room) (as' : Array Value) (h0 : Heap) (wy : List Addr) (Q : Option Value → Heap → Prop) : Prop :=
  MetFree l y (head1 (Jvm.Cond.code y bytes maxL ret :: xs) rm) (fun a U => a = as' ∧ Z.Warmed39 U.vm ∧ U.heap = h0) (fun _ _ _ _ _ => True) (fun _ U o U' => ∃ v L, o = .returned v ∧ (Fr Z.heap.size L ∧ Keep h0 U'.heap wy ∧ Q v U'.heap) ∧ FrameEnd U o U' L rm.cells rm.slots)
def PN (s : State) (Z : State) (below : List Frame) (h0 : Heap) (wy : List Addr) (rm : Room) (Q : Option Value → Heap → Prop) (s₂ : State) (o : Outcome) : Prop := s₂.status = .running ∧ Ended s₂ below o ∧ ∃ v L, o = .returned v ∧ (Fr Z.heap.size L ∧ Keep h0 s₂.heap wy ∧ Q v s₂.heap) ∧ FrameEnd s o s₂ L rm.cells rm.slots
theorem own_entry {as : List Value} {n : Nat} {Ls : List Slot} (h : Jvm.Sym.laidSlots as ++ List.replicate (n - (Jvm.Sym.laidSlots as).length) Slot.unset = Ls) (m : MethodId) : entryFrame m as.toArray n = mkF m 0 Ls.toArray [] := by
  have e : argsToLocals as.toArray n = Ls.toArray := Array.toList_inj.mp ((Jvm.Sym.argsToLocals_toList _ _).trans h)
  exact congrArg (fun L => mkF m 0 L []) e
theorem CtrN.intro {y : MethodName} {bytes : ByteArray} {maxL : Nat} {ret : Option FieldType} {xs : List Jvm.Cond} {rm : Room} {as' : Array Value} {h0 : Heap} {wy : List Addr} {Q : Option Value → Heap → Prop} {L0 : Array Slot} (hx : plainFor y = true) (O : Old Z Z.heap.size h0) (hef : ∀ m, entryFrame m as' maxL = mkF m 0 L0 [])
    (body : ∀ (p : Program) (e : Env) (s : State) (m : MethodId) (below : List Frame) (meth : Method) (c : Code) (T : State), c.code = bytes → c.maxLocals = maxL → meth.sig.returnType = ret → meth.locks = false → meth.name = y.name → Wk p l e rm s m as' below meth c y.cls Z h0 wy (fun _ => True) T h0 [] 0 0 → Gl p.tables e below (PN s Z below h0 wy rm Q) T m 0 L0 []) :
    CtrN l Z y bytes maxL ret xs rm as' h0 wy Q := by
  refine MetFree.of_bodySF hx hisR ?_
  intro p e s m args below meth c s₁ Bd hml hP hK
  obtain ⟨rfl, hZ, hh⟩ := hP
  have e0 : s₁.heap = h0 := by rw [← hh, Bd.state]; rfl
  obtain ⟨s2, o, g1, g2, g3, g4⟩ := body p e s m below meth c s₁ Bd.bytes hml Bd.returns Bd.notSynchronized (name_of_methodNamed Bd.named Bd.method).1 ⟨Stand.of_body Bd, Bd.exec, e0, hZ, findClass_of_methodNamed Bd.named, O, Fr.nil _, Keep.refl _ _, trivial⟩
  exact ⟨s2, o, castTop (hef m) g1, g2, g3, g4⟩
theorem CtrN.back {y : MethodName} {bytes : ByteArray} {maxL : Nat} {ret : Option FieldType} {rm : Room} {as' : Array Value} {wy : List Addr} {Q : Option Value → Heap → Prop} {len Wd : Nat} (W : Wk p l e R s m args below meth c own Z hb ws I T h locs cells slots) (C : CtrN l Z y bytes maxL ret [] rm as' h wy Q) (wc : (Cond.code y bytes maxL ret).before a0 Z = true) (wz : (Cond.initialized y.cls).before a0 Z = true)
    (hf : rm.frames + 1 ≤ R.frames) (hl : Wd + (maxL + 11) + rm.locals ≤ R.locals) : BackQ l R p e below s args y len Wd as' h rm.cells rm.slots (fun v hh L => Fr Z.heap.size L ∧ Keep h hh wy ∧ Q v hh) :=
  backOf (Q := fun v hh L => Fr Z.heap.size L ∧ Keep h hh wy ∧ Q v hh) C W.2.2.2.1 wc wz hf hl
theorem o_leaveN {y0 : List Addr} {Q : Option Value → Heap → Prop} {rm : Room} (W : Wk p l e rm s m args below meth c own Z hb ws I T h locs cells slots) (hlk : meth.locks = false) {v : Option Value} (hv : meth.sig.returnType = none → v = none) (hq : Q v h) (hc : cells ≤ rm.cells) (hs : slots ≤ rm.slots) (st : ∀ fs, (∀ (f : JFrame) (acts : List Action), f.method = m → f.locked = none → f.entered = [] → (doReturn e (T.setTop f) acts v).1 = T.setFrames fs) → Steps p.tables e below (T.setTop (mkF m pc L S)) (T.setFrames fs)) :
    Gl p.tables e below (PN s Z below hb ws rm Q) T m pc L S := by
  obtain ⟨X, hx, eT, hZ, ho, o, fr, kp, i⟩ := W
  obtain ⟨fs, hr, hrun, hended, hW, hsame⟩ := X.leave (v := v) hv
  have eh : (T.setFrames fs).heap = h := eT
  exact ⟨_, _, st fs hr, hrun, hended, v, locs, rfl, ⟨fr, by rw [eh]; exact kp, by rw [eh]; exact hq⟩, ⟨_, rfl⟩, hW, hsame.mono hc hs⟩
theorem o_retI (W : Wk p l e R s m args below meth c own Z hb ws I T h locs cells slots) (hlk : meth.locks = false) {Q : Option Value → Heap → Prop} {z : Int32} (hret : meth.sig.returnType = some .int) (hd : decode c.code pc = .ok (.ireturn, 1)) (hc : cells ≤ R.cells) (hs : slots ≤ R.slots) (hq : Q (some (.int z)) h) : Gl p.tables e below (PN s Z below hb ws R Q) T m pc L (.int z :: S) :=
  o_leaveN (y0 := []) W hlk (fun q => by rw [hret] at q; cases q) hq hc hs fun fs hr => retOut W.1 W.2.1 hret rfl (Or.inl ⟨rfl, Or.inl rfl, _, rfl⟩) hd hr
theorem o_retN (W : Wk p l e R s m args below meth c own Z hb ws I T h locs cells slots) (hlk : meth.locks = false) {Q : Option Value → Heap → Prop} {z z' : Int32} {t : FieldType} (hret : meth.sig.returnType = some t) (ht : t = .boolean ∨ t = .byte ∨ t = .char ∨ t = .short) (hz : nar t z = z') (hd : decode c.code pc = .ok (.ireturn, 1)) (hc : cells ≤ R.cells) (hs : slots ≤ R.slots) (hq : Q (some (.int z')) h) : Gl p.tables e below (PN s Z below hb ws R Q) T m pc L (.int z :: S) := by
  subst hz
  exact o_leaveN (y0 := []) W hlk (fun q => by rw [hret] at q; cases q) hq hc hs fun fs hr => retN W.1 W.2.1 hret ht hd hr
theorem o_retA (W : Wk p l e R s m args below meth c own Z hb ws I T h locs cells slots) (hlk : meth.locks = false) {Q : Option Value → Heap → Prop} {t : FieldType} {v : Value} (hret : meth.sig.returnType = some t) (ht : t.isReference = true) (hv : v.isRef = true) (hd : decode c.code pc = .ok (.areturn, 1)) (hc : cells ≤ R.cells) (hs : slots ≤ R.slots) (hq : Q (some v) h) : Gl p.tables e below (PN s Z below hb ws R Q) T m pc L (v :: S) :=
  o_leaveN (y0 := []) W hlk (fun q => by rw [hret] at q; cases q) hq hc hs fun fs hr => retOut W.1 W.2.1 hret (by cases v <;> first | (cases hv; done) | (cases t <;> first | (cases ht; done) | rfl)) (Or.inr (Or.inr (Or.inr (Or.inr ⟨rfl, ht, hv⟩)))) hd hr
theorem o_ret0 (W : Wk p l e R s m args below meth c own Z hb ws I T h locs cells slots) (hlk : meth.locks = false) {Q : Option Value → Heap → Prop} (hret : meth.sig.returnType = none) (hd : decode c.code pc = .ok (.return_, 1)) (hc : cells ≤ R.cells) (hs : slots ≤ R.slots) (hq : Q none h) : Gl p.tables e below (PN s Z below hb ws R Q) T m pc L [] :=
  o_leaveN (y0 := []) W hlk (fun _ => rfl) hq hc hs fun fs hr => W.1.returnOut W.2.1 hret hd hr
end OwnPre

section OwnWide
def IW (s : State) (Z : State) (EL : List (String × Nat)) (V : Vm) (h : Heap) : Prop := (∃ k0, s.Since V k0 ∧ k0 ≤ h.size) ∧ CHv Z EL V h ∧ CHr Z EL s.vm s.heap V h
variable {p : Program} {l : Launch} {e : Env} {R : Room} {s : State} {m : MethodId} {args : Array Value} {below : List Frame} {meth : Method} {c : Code} {T : State} {locs : List Loc} {cells slots cells' slots' : Nat} {Z : State} {a0 : Array Value} {h h' hb : Heap} {ws : List Addr} {own : String} {P : State → Outcome → Prop} {pc pc' : Nat} {L L' : Array Slot} {S : List Value} {EL : List (String × Nat)} {V : Vm}
theorem IW.ext (E : Ext h h') (i : IW s Z EL V h) : IW s Z EL V h' := by
  obtain ⟨⟨k0, h1, h2⟩, h3, h4⟩ := i
  exact ⟨⟨k0, h1, Nat.le_trans h2 E.1⟩, h3.ext E, h4.trans (CHr.ext E h3)⟩
theorem IW.wr {a : Addr} {sl : Nat} {v : Value} (W : Wr h h' a sl v) (S : Safe Z EL V h a) (i : IW s Z EL V h) : IW s Z EL V h' := by
  obtain ⟨⟨k0, h1, h2⟩, h3, h4⟩ := i
  exact ⟨⟨k0, h1, by rw [W.size]; exact h2⟩, h3.wr W S, h4.trans (CHr.wr W S h3)⟩
theorem IW.keep {wy : List Addr} (K : Keep h h' wy) (hs : ∀ x ∈ wy, Safe Z EL V h x) (i : IW s Z EL V h) : IW s Z EL V h' := by
  obtain ⟨⟨k0, h1, h2⟩, h3, h4⟩ := i
  exact ⟨⟨k0, h1, Nat.le_trans h2 K.1⟩, h3.keep K hs, h4.trans (CHr.keep K hs h3)⟩
theorem own_safeS {vm : Vm} {x : Addr} (hal : Z.vm.Alike vm) (E : Exa Z h x "java/lang/String") (F : Fld Z h x "java/lang/String" "value" "[B" .null) : Safe Z EL vm h x := fun B => by
  obtain ⟨pp, -, u, a, -, q, -, G, rfl | rfl⟩ := B
  · obtain ⟨cS, ⟨⟨g1, -, -, ⟨c1, k1, i1, f1, -⟩, -, -, -, v1, -⟩, -⟩, -⟩ := G
    obtain ⟨cell, cf, k, i, f, h1, h2, h3, h4, h5, h6, h7⟩ := F
    cases h1.symm.trans g1
    obtain ⟨k3, e3, -⟩ := State.fieldFound?_setVm (s := Z) hal h2
    have e4 := (show (Wst Z vm h).fieldFound? _ _ _ = _ from e3).symm.trans f1
    simp only [Option.some.injEq, Prod.mk.injEq] at e4
    rw [e4.2.2.2] at h7
    rw [h7] at v1
    simp at v1
  · have hA : (Wst Z vm h).isArrayOf q.SA .byte := by
      obtain ⟨cS, ⟨⟨-, -, -, -, -, -, -, -, -, -, g11, -⟩, -⟩, -⟩ := G
      exact g11
    have hc := G.hd
    obtain ⟨cell, k, h1, h2, h3, -, -⟩ := E
    cases h1.symm.trans hc
    obtain ⟨cS, -, -, hB, -⟩ := G
    have hB' : vm.findClass "[B" = some q.SA.cls := hB
    rw [hal.findClass] at hB'
    obtain ⟨ka, a1, a2⟩ := Vm.findClass_spec hB'
    obtain ⟨kb, b1, b2⟩ := Vm.findClass_spec h2
    cases a1.symm.trans b1
    rw [a2] at b2
    exact absurd b2 (by decide)
def ELn (Z : State) (a0 : Array Value) (EL : List (String × Nat)) (n : Nat) : Prop := ∀ p ∈ EL, ∃ text : String, (Cond.stringLink p.1 p.2 text).before a0 Z = true ∧ (∀ c ∈ text.toList, c.toNat < 256) ∧ text.toList.length ≠ n
theorem ELn.nil {n : Nat} : ELn Z a0 [] n := fun _ hp => by cases hp
theorem ELn.cons {n index : Nat} {text : String} (w : (Cond.stringLink own index text).before a0 Z = true) (ht : ∀ c ∈ text.toList, c.toNat < 256) (hn : text.toList.length ≠ n) (E : ELn Z a0 EL n) : ELn Z a0 ((own, index) :: EL) n := fun p hp => by
  rcases List.mem_cons.mp hp with rfl | hp
  · exact ⟨text, w, ht, hn⟩
  · exact E p hp
theorem own_safeB {vm : Vm} {x : Addr} {k : ClassId} {z : Int32} {vs : List Value} {dv : Value} {n : Nat} (hW : Z.Warmed39 vm) (hn : z.toNatClampNeg = n) (N : ELn Z a0 EL n) (F : Arv Z h x k .byte z vs dv) : Safe Z EL vm h x := fun B => by
  have hal : Z.vm.Alike vm := hW.alike
  obtain ⟨cl, ⟨A1, ⟨-, kA, hkA, compA, hkindA⟩, -⟩, -, hsz, -⟩ := F
  obtain ⟨kA', hkA', ekA⟩ := hal.2.2 _ _ hkA
  obtain ⟨pp, hp, u, a, hb, q, -, G, rfl | rfl⟩ := B
  · cases (show h[q.sa]? = some q.sC from G.ha).symm.trans A1
    obtain ⟨cS, ⟨-, -, e⟩, ⟨kS, g1, g2, -⟩, -⟩ := G
    subst e
    cases (show vm.classes[q.sC.cls]? = some kS from g1).symm.trans hkA'
    rw [ekA] at g2
    have := hkindA.symm.trans g2
    cases this
  · cases (show h[q.sd]? = some q.SA from G.hd).symm.trans A1
    obtain ⟨cS, -, -, -, hbyt⟩ := G
    obtain ⟨text, w, ht, hne⟩ := N pp hp
    have w2 : (Cond.stringLink pp.1 pp.2 text).before a0 (Wst Z vm h) = true := mvS (s := { Z with heap := h }) hW w
    obtain ⟨c1, k1, cf, i, f1, f2, f3, f4, f5, -⟩ := hb
    obtain ⟨k0', cf', i', units, hkx, hcf, hpl, hu, -, htext, -⟩ := Cond.stringLink_spec (s := Wst Z vm h) f1 w2
    have hkx : vm.classes[c1]? = some k0' := hkx
    cases f2.symm.trans hkx
    cases f3.symm.trans hcf
    cases f4.symm.trans hpl
    cases f5.symm.trans hu
    rw [hbyt, Jvm.Free.SBG.stringBytes_lat (Jvm.ClassFile.lat_of_text htext ht), Array.size_map] at hsz
    have el := congrArg List.length (Jvm.ClassFile.units_of_text htext ht)
    simp only [Array.length_toList, List.length_map] at el
    omega
theorem o_ldcR (W : Wk p l e R (s.setVm V) m args below meth c own Z hb ws (IW s Z EL V) T h locs cells slots) {text : String} {index : Nat} (w : (Cond.stringLink own index text).before a0 Z = true) (wS : ∀ a ∈ Bundle.stringAtoms, a.before a0 Z = true) (hEL : EW Z a0 EL) (hmem : (own, index) ∈ EL) (hd : decode c.code pc = .ok (.ldc index, 2)) (hp : pc + 2 = pc') {n : Nat} (hn : 4 * text.toList.length ≤ n) (hbig : n ≤ 536870912)
    (hc' : cells + 2 = cells') (hs' : slots + (n + 4) = slots') (hc : cells' ≤ R.cells) (hs : slots' ≤ R.slots) {vs : List Value} {z : Int32} (ht : (∀ c ∈ text.toList, c.toNat < 256) ∧ text.toList.map (fun c => Value.int (Jvm.Lit.byteI c.toNat.toUInt16)) = vs) (hz : ¬ z < 0) (hl : z.toNatClampNeg = vs.length)
    (K : ∀ a T' h' V' b k, Wk p l e R (s.setVm V') m args below meth c own Z hb ws (IW s Z EL V') T' h' locs cells' slots' → Ext h h' → CHr Z EL V h V' h' → Exa Z h' a "java/lang/String" → Fld Z h' a "java/lang/String" "coder" "B" (.int 0) → Fld Z h' a "java/lang/String" "value" "[B" (.ref b) → Arv Z h' b k .byte z vs (.int 0) → (∀ x, Safe Z EL V' h' x → x ≠ a ∧ x ≠ b) → Gl p.tables e below P T' m pc' L (.ref a :: S)) : Gl p.tables e below P T m pc L S := by
  subst hp hc' hs'
  obtain ⟨X, hx, eT, hZ, ho, o, fr, kp, ⟨k0, i1, i2⟩, i3, i4⟩ := W
  obtain ⟨a, T', h', k1, b, k, X', e', E, hS, hk, hW, hf, A1, A2, A3, A4, -, -, hC, -, hne, st⟩ := ldcCH X hx hZ ho w wS eT i1 i2 hEL hmem i3 ht hz hl (g := mkF m pc L S) rfl hd hn hbig hc hs
  exact Gl.st st (K a T' h' T'.vm b k ⟨X', hx, e', hW, hf, o.ext E, fr, kp.ext E, ⟨k1, hS, hk⟩, hC.1, i4.trans hC⟩ E hC A1 A2 A3 A4 hne)
def CtrW (l : Launch) (Z : State) (EL : List (String × Nat)) (y : MethodName) (bytes : ByteArray) (maxL : Nat) (ret : Option FieldType) (xs : List Jvm.Cond) (rm : Room) (as' : Array Value) (h0 : Heap) (wy : List Addr) (Q : Option Value → Heap → Prop) : Prop :=
  MetFree l y (head1 (Jvm.Cond.code y bytes maxL ret :: xs) rm) (fun a U => a = as' ∧ Z.Warmed39 U.vm ∧ U.heap = h0 ∧ CHv Z EL U.vm h0) (fun _ _ _ _ _ => True) (fun _ U o U' => ∃ v L, o = .returned v ∧ (Fr Z.heap.size L ∧ Keep h0 U'.heap wy ∧ Q v U'.heap) ∧ CHr Z EL U.vm U.heap U'.vm U'.heap ∧ ReturnedEndW U o U' L rm.cells rm.slots)
def PW (s : State) (Z : State) (EL : List (String × Nat)) (below : List Frame) (h0 : Heap) (wy : List Addr) (rm : Room) (Q : Option Value → Heap → Prop) (s₂ : State) (o : Outcome) : Prop := s₂.status = .running ∧ Ended s₂ below o ∧ ∃ v L, o = .returned v ∧ (Fr Z.heap.size L ∧ Keep h0 s₂.heap wy ∧ Q v s₂.heap) ∧ CHr Z EL s.vm s.heap s₂.vm s₂.heap ∧ ReturnedEndW s o s₂ L rm.cells rm.slots
theorem CtrW.intro {y : MethodName} {bytes : ByteArray} {maxL : Nat} {ret : Option FieldType} {xs : List Jvm.Cond} {rm : Room} {as' : Array Value} {h0 : Heap} {wy : List Addr} {Q : Option Value → Heap → Prop} {L0 : Array Slot} (hx : plainFor y = true) (O : Old Z Z.heap.size h0) (hef : ∀ m, entryFrame m as' maxL = mkF m 0 L0 [])
    (body : ∀ (p : Program) (e : Env) (s : State) (m : MethodId) (below : List Frame) (meth : Method) (c : Code) (T : State) (V : Vm), c.code = bytes → c.maxLocals = maxL → meth.sig.returnType = ret → meth.locks = false → meth.name = y.name → Wk p l e rm (s.setVm V) m as' below meth c y.cls Z h0 wy (IW s Z EL V) T h0 [] 0 0 → Gl p.tables e below (PW s Z EL below h0 wy rm Q) T m 0 L0 []) :
    CtrW l Z EL y bytes maxL ret xs rm as' h0 wy Q := by
  refine MetFree.of_bodySF hx hisR ?_
  intro p e s m args below meth c s₁ Bd hml hP hK
  obtain ⟨rfl, hZ, hh, hH⟩ := hP
  have e0 : s₁.heap = h0 := by rw [← hh, Bd.state]; rfl
  have hr : CHr Z EL s.vm s.heap s.vm h0 := by rw [hh]; exact CHr.refl hH
  have X : Stand p l e rm (s.setVm s.vm) m args below meth c s₁ [] 0 0 := Stand.of_body Bd
  obtain ⟨s2, o, g1, g2, g3, g4⟩ := body p e s m below meth c s₁ s.vm Bd.bytes hml Bd.returns Bd.notSynchronized (name_of_methodNamed Bd.named Bd.method).1 ⟨X, Bd.exec, e0, hZ, findClass_of_methodNamed Bd.named, O, Fr.nil _, Keep.refl _ _, ⟨0, (State.WarmedH.refl s).since _, Nat.zero_le _⟩, hH, hr⟩
  exact ⟨s2, o, castTop (hef m) g1, g2, g3, g4⟩
abbrev BackSQ (l : Launch) (R : Room) (p : Program) (e : Env) (below : List Frame) (s : State) (args : Array Value) (y : MethodName) (len Wd : Nat) (as' : Array Value) (h : Heap) (kc ks : Nat) (Q : Option Value → Heap → List Loc → Prop) (Z : State) (EL : List (String × Nat)) (V : Vm) : Prop :=
  BackS l R p e below s args y len Wd (fun A a => a = as' ∧ A.U.heap = h ∧ A.cells + kc ≤ R.cells ∧ A.slots + ks ≤ R.slots) (fun A _ v B => ∃ L, Q v B.U.heap L ∧ B.locs = A.locs ++ L ∧ B.cells = A.cells + kc ∧ B.slots = A.slots + ks ∧ CHr Z EL V h B.U.vm B.U.heap)
theorem CtrW.back {y : MethodName} {bytes : ByteArray} {maxL : Nat} {ret : Option FieldType} {rm : Room} {as' : Array Value} {wy : List Addr} {Q : Option Value → Heap → Prop} {len Wd : Nat} (W : Wk p l e R (s.setVm V) m args below meth c own Z hb ws (IW s Z EL V) T h locs cells slots) (C : CtrW l Z EL y bytes maxL ret [] rm as' h wy Q) (wc : (Cond.code y bytes maxL ret).before a0 Z = true) (wz : (Cond.initialized y.cls).before a0 Z = true)
    (hf : rm.frames + 1 ≤ R.frames) (hl : Wd + (maxL + 11) + rm.locals ≤ R.locals) (hEL : EW Z a0 EL) : BackSQ l R p e below (s.setVm V) args y len Wd as' h rm.cells rm.slots (fun v hh L => Fr Z.heap.size L ∧ Keep h hh wy ∧ Q v hh) Z EL V :=
  backOfSH (s := s) (Q := fun v hh L => Fr Z.heap.size L ∧ Keep h hh wy ∧ Q v hh) C W.2.2.2.1 wc wz hf hl hEL W.inv.2.1
theorem o_afterW (W : Wk p l e R (s.setVm V) m args below meth c own Z hb ws (IW s Z EL V) T h locs cells slots) {B : Pt} {v : Option Value} {kc ks : Nat} {Q : Option Value → Heap → List Loc → Prop} {wy : List Addr} (X' : Stand p l e R ((s.setVm V).setVm B.U.vm) m args below meth c B.U B.locs B.cells B.slots) (hS : (s.setVm V).Since B.U.vm B.U.heap.size) (hgr : T.heap.size ≤ B.U.heap.size) (hpost : ∃ L, Q v B.U.heap L ∧ B.locs = locs ++ L ∧ B.cells = cells + kc ∧ B.slots = slots + ks ∧ CHr Z EL V h B.U.vm B.U.heap)
    (hq : ∀ v hh L, Q v hh L → Fr Z.heap.size L ∧ Keep h hh wy) (hg : ∀ x ∈ wy, Z.heap.size ≤ x ∧ (x ∈ ws ∨ hb.size ≤ x)) :
    ∃ L, Q v B.U.heap L ∧ Keep h B.U.heap wy ∧ CHr Z EL V h B.U.vm B.U.heap ∧ Wk p l e R (s.setVm B.U.vm) m args below meth c own Z hb ws (IW s Z EL B.U.vm) B.U B.U.heap (locs ++ L) (cells + kc) (slots + ks) := by
  obtain ⟨X, hx, eT, hZ, ho, o, fr, kp, ⟨k0, i1, i2⟩, i3, i4⟩ := W
  obtain ⟨⟨U, lo, kc', ks'⟩, rfl⟩ : ∃ B', B' = B := ⟨_, rfl⟩
  obtain ⟨L', q, e1, e2, e3, hC⟩ := hpost
  have e1 : lo = locs ++ L' := e1
  have e2 : kc' = cells + kc := e2
  have e3 : ks' = slots + ks := e3
  subst e1 e2 e3
  obtain ⟨f, k⟩ := hq _ _ _ q
  obtain ⟨Y, hS2, hZ2, ho2⟩ := rebS (n1 := T.heap.size) i1 (by rw [eT]; exact i2) X' hS hgr hZ ho
  exact ⟨L', q, k, hC, Y, hx, rfl, hZ2, ho2, o.keep k (fun x hx => (hg x hx).1), fr.app f, kp.trans k (fun x hx => (hg x hx).2), ⟨_, hS2, Nat.le_refl _⟩, hC.1, i4.trans hC⟩
theorem o_staticW (W : Wk p l e R (s.setVm V) m args below meth c own Z hb ws (IW s Z EL V) T h locs cells slots) {index : Nat} {y : MethodName} {bytes : ByteArray} {maxL : Nat} {ret : Option FieldType} (w1 : (Cond.methodLink own index y).before a0 Z = true) (w2 : (Cond.static y).before a0 Z = true) (w3 : (Cond.initialized y.cls).before a0 Z = true) (w4 : (Cond.code y bytes maxL ret).before a0 Z = true)
    (hy : y.cls ≠ "java/lang/invoke/MethodHandle" ∧ y.cls ≠ "java/lang/invoke/VarHandle") {Wd kc ks : Nat} {Q : Option Value → Heap → List Loc → Prop} {argsL : List Value} (B : BackSQ l R p e below (s.setVm V) args y 3 Wd argsL.toArray h kc ks Q Z EL V) (hml : L.size = c.maxLocals)
    (hlen : ∀ sig, parseMethodDescriptor y.desc = some sig → argsL.length = sig.parameters.length) {S0 : List Value} (hS : S0 = argsL.reverse ++ S) (hW : 2 * 0 + (S.map fun v => v.category).sum ≤ Wd) (hd : decode c.code pc = .ok (.invokestatic index, 3)) (hp : pc + 3 = pc')
    (hc' : cells + kc = cells') (hs' : slots + ks = slots') (hc : cells' ≤ R.cells) (hs : slots' ≤ R.slots) {wy : List Addr} (hq : ∀ v hh L, Q v hh L → Fr Z.heap.size L ∧ Keep h hh wy) (hg : ∀ x ∈ wy, Z.heap.size ≤ x ∧ (x ∈ ws ∨ hb.size ≤ x))
    (K : ∀ v T' h' V' Lc, Wk p l e R (s.setVm V') m args below meth c own Z hb ws (IW s Z EL V') T' h' (locs ++ Lc) cells' slots' → Keep h h' wy → CHr Z EL V h V' h' → Q v h' Lc → Gl p.tables e below P T' m pc' L (v.toList ++ S)) : Gl p.tables e below P T m pc L S0 := by
  subst hp hc' hs' hS
  obtain ⟨v, vm₁, B', -, X', hS, hgr, hpost, st⟩ := callSS W.1 W.2.1 W.2.2.2.2.1 (mvT W.2.2.2.1 w1) (mvT W.2.2.2.1 w2) (mvT W.2.2.2.1 w3) (mvT W.2.2.2.1 w4) hy B (g := mkF m pc L (argsL.reverse ++ S)) rfl hml hlen rfl hW hd (fun _ _ => ⟨rfl, W.2.2.1, hc, hs⟩)
  obtain ⟨Lc, q, k, hC, W'⟩ := o_afterW W X' hS hgr hpost hq hg
  exact Gl.tr st (K v _ _ _ Lc W' k hC q)
theorem o_specialW (W : Wk p l e R (s.setVm V) m args below meth c own Z hb ws (IW s Z EL V) T h locs cells slots) {index : Nat} {y : MethodName} {bytes : ByteArray} {maxL : Nat} (hy1 : y.name = "<init>") (w1 : (Cond.methodLink own index y).before a0 Z = true) (w2 : (Cond.instanceMethod y).before a0 Z = true) (w4 : (Cond.code y bytes maxL none).before a0 Z = true)
    (hy : y.cls ≠ "java/lang/invoke/MethodHandle" ∧ y.cls ≠ "java/lang/invoke/VarHandle") {Wd kc ks : Nat} {Q : Option Value → Heap → List Loc → Prop} {a : Addr} {argsL : List Value} (B : BackSQ l R p e below (s.setVm V) args y 3 Wd (.ref a :: argsL).toArray h kc ks Q Z EL V) (hml : L.size = c.maxLocals)
    (hlen : ∀ sig, parseMethodDescriptor y.desc = some sig → argsL.length = sig.parameters.length) {S0 : List Value} (hS : S0 = argsL.reverse ++ .ref a :: S) (hW : 2 * 0 + (S.map fun v => v.category).sum ≤ Wd) (hd : decode c.code pc = .ok (.invokespecial index, 3)) (hp : pc + 3 = pc')
    (hc' : cells + kc = cells') (hs' : slots + ks = slots') (hc : cells' ≤ R.cells) (hs : slots' ≤ R.slots) {wy : List Addr} (hq : ∀ v hh L, Q v hh L → Fr Z.heap.size L ∧ Keep h hh wy) (hg : ∀ x ∈ wy, Z.heap.size ≤ x ∧ (x ∈ ws ∨ hb.size ≤ x))
    (K : ∀ v T' h' V' Lc, Wk p l e R (s.setVm V') m args below meth c own Z hb ws (IW s Z EL V') T' h' (locs ++ Lc) cells' slots' → Keep h h' wy → CHr Z EL V h V' h' → Q v h' Lc → Gl p.tables e below P T' m pc' L (v.toList ++ S)) : Gl p.tables e below P T m pc L S0 := by
  subst hp hc' hs' hS
  obtain ⟨v, vm₁, B', -, X', hS, hgr, hpost, st⟩ := W.1.specialBackS W.2.1 hy1 W.2.2.2.2.1 (mvT W.2.2.2.1 w1) (mvT W.2.2.2.1 w2) (mvT W.2.2.2.1 w4) hy B (g := mkF m pc L (argsL.reverse ++ .ref a :: S)) rfl hml (Steps.refl _) hlen rfl hW hd (fun _ _ => ⟨rfl, W.2.2.1, hc, hs⟩)
  obtain ⟨Lc, q, k, hC, W'⟩ := o_afterW W X' hS hgr hpost hq hg
  exact Gl.tr st (K v _ _ _ Lc W' k hC q)
theorem o_virtualW (W : Wk p l e R (s.setVm V) m args below meth c own Z hb ws (IW s Z EL V) T h locs cells slots) {index : Nat} {C : String} {y z : MethodName} (w1 : (Cond.methodLink own index y).before a0 Z = true) (w2 : (Cond.declares y).before a0 Z = true) (hnf : NotFace (s.setVm V) y) (w3 : (Cond.selects C y z).before a0 Z = true) (w4 : (Cond.instanceMethod z).before a0 Z = true)
    (hy : y.cls ≠ "java/lang/invoke/MethodHandle" ∧ y.cls ≠ "java/lang/invoke/VarHandle") {Wd kc ks : Nat} {Q : Option Value → Heap → List Loc → Prop} {a : Addr} (E : Exa Z h a C) {argsL : List Value} (B : BackSQ l R p e below (s.setVm V) args z 3 Wd (.ref a :: argsL).toArray h kc ks Q Z EL V) (hml : L.size = c.maxLocals)
    (hlen : ∀ sig, parseMethodDescriptor y.desc = some sig → argsL.length = sig.parameters.length) {S0 : List Value} (hS : S0 = argsL.reverse ++ .ref a :: S) (hW : 2 * 0 + (S.map fun v => v.category).sum ≤ Wd) (hd : decode c.code pc = .ok (.invokevirtual index, 3)) (hp : pc + 3 = pc')
    (hc' : cells + kc = cells') (hs' : slots + ks = slots') (hc : cells' ≤ R.cells) (hs : slots' ≤ R.slots) {wy : List Addr} (hq : ∀ v hh L, Q v hh L → Fr Z.heap.size L ∧ Keep h hh wy) (hg : ∀ x ∈ wy, Z.heap.size ≤ x ∧ (x ∈ ws ∨ hb.size ≤ x))
    (K : ∀ v T' h' V' Lc, Wk p l e R (s.setVm V') m args below meth c own Z hb ws (IW s Z EL V') T' h' (locs ++ Lc) cells' slots' → Keep h h' wy → CHr Z EL V h V' h' → Q v h' Lc → Gl p.tables e below P T' m pc' L (v.toList ++ S)) : Gl p.tables e below P T m pc L S0 := by
  subst hp hc' hs' hS
  obtain ⟨cB, kB, q1, q2, q3⟩ := isOf W.2.2.2.1 W.2.2.1 E
  obtain ⟨v, vm₁, B', -, X', hS, hgr, hpost, st⟩ := W.1.virtualBackS W.2.1 W.2.2.2.2.1 (mvT W.2.2.2.1 w1) (mvT W.2.2.2.1 w2) hnf (mvT W.2.2.2.1 w3) (mvT W.2.2.2.1 w4) hy B q1 q3 (g := mkF m pc L (argsL.reverse ++ .ref a :: S)) rfl hml (Steps.refl _) hlen rfl hW hd (fun _ _ => ⟨rfl, W.2.2.1, hc, hs⟩)
  obtain ⟨Lc, q, k, hC, W'⟩ := o_afterW W X' hS hgr hpost hq hg
  exact Gl.tr st (K v _ _ _ Lc W' k hC q)
theorem o_leaveWW {Q : Option Value → Heap → Prop} (W : Wk p l e R (s.setVm V) m args below meth c own Z hb ws (IW s Z EL V) T h locs cells slots) (hEL : EW Z a0 EL) (hlk : meth.locks = false) {v : Option Value} (hv : meth.sig.returnType = none → v = none) (hq : Q v h) (hc : cells ≤ R.cells) (hs : slots ≤ R.slots) (st : ∀ fs, (∀ (f : JFrame) (acts : List Action), f.method = m → f.locked = none → f.entered = [] → (doReturn e (T.setTop f) acts v).1 = T.setFrames fs) → Steps p.tables e below (T.setTop (mkF m pc L S)) (T.setFrames fs)) :
    Gl p.tables e below (PW s Z EL below hb ws R Q) T m pc L S := by
  obtain ⟨X, hx, eT, hZ, ho, o, fr, kp, ⟨k0, i1, i2⟩, i3, i4⟩ := W
  obtain ⟨fs, hr, hrun, hended, a1, a2, a3, a4⟩ := X.leaveW i1 (by rw [eT]; exact i2) (v := v) hv
  have eh : (T.setFrames fs).heap = h := eT
  have hA := CHv.at X hZ hEL i3
  exact ⟨_, _, st fs hr, hrun, hended, v, locs, rfl, ⟨fr, by rw [eh]; exact kp, by rw [eh]; exact hq⟩, by rw [eh]; exact i4.trans hA, a1, a2, a3, a4.mono hc hs⟩
theorem o_retNW (W : Wk p l e R (s.setVm V) m args below meth c own Z hb ws (IW s Z EL V) T h locs cells slots) (hEL : EW Z a0 EL) (hlk : meth.locks = false) {Q : Option Value → Heap → Prop} {z z' : Int32} {t : FieldType} (hret : meth.sig.returnType = some t) (ht : t = .boolean ∨ t = .byte ∨ t = .char ∨ t = .short) (hz : nar t z = z') (hd : decode c.code pc = .ok (.ireturn, 1)) (hc : cells ≤ R.cells) (hs : slots ≤ R.slots) (hq : Q (some (.int z')) h) : Gl p.tables e below (PW s Z EL below hb ws R Q) T m pc L (.int z :: S) := by
  subst hz
  exact o_leaveWW W hEL hlk (fun q => by rw [hret] at q; cases q) hq hc hs fun fs hr => retN W.1 W.2.1 hret ht hd hr
theorem o_retAW (W : Wk p l e R (s.setVm V) m args below meth c own Z hb ws (IW s Z EL V) T h locs cells slots) (hEL : EW Z a0 EL) (hlk : meth.locks = false) {Q : Option Value → Heap → Prop} {t : FieldType} {v : Value} (hret : meth.sig.returnType = some t) (ht : t.isReference = true) (hv : v.isRef = true) (hd : decode c.code pc = .ok (.areturn, 1)) (hc : cells ≤ R.cells) (hs : slots ≤ R.slots) (hq : Q (some v) h) : Gl p.tables e below (PW s Z EL below hb ws R Q) T m pc L (v :: S) :=
  o_leaveWW W hEL hlk (fun q => by rw [hret] at q; cases q) hq hc hs fun fs hr => retOut W.1 W.2.1 hret (by cases v <;> first | (cases hv; done) | (cases t <;> first | (cases ht; done) | rfl)) (Or.inr (Or.inr (Or.inr (Or.inr ⟨rfl, ht, hv⟩)))) hd hr
theorem o_ret0W (W : Wk p l e R (s.setVm V) m args below meth c own Z hb ws (IW s Z EL V) T h locs cells slots) (hEL : EW Z a0 EL) (hlk : meth.locks = false) {Q : Option Value → Heap → Prop} (hret : meth.sig.returnType = none) (hd : decode c.code pc = .ok (.return_, 1)) (hc : cells ≤ R.cells) (hs : slots ≤ R.slots) (hq : Q none h) : Gl p.tables e below (PW s Z EL below hb ws R Q) T m pc L [] :=
  o_leaveWW W hEL hlk (fun _ => rfl) hq hc hs fun fs hr => W.1.returnOut W.2.1 hret hd hr
end OwnWide
section OwnMore
variable {p : Program} {l : Launch} {e : Env} {R : Room} {s : State} {m : MethodId} {args : Array Value} {below : List Frame} {meth : Method} {c : Code} {T : State} {locs : List Loc} {cells slots cells' slots' : Nat} {Z : State} {a0 : Array Value} {h h' hb : Heap} {ws : List Addr} {own : String} {I : Heap → Prop} {P : State → Outcome → Prop} {pc pc' : Nat} {L L' : Array Slot} {S : List Value}
theorem own_selSelf {y : MethodName} {C : String} {args : Array Value} (hy : y.cls ≠ "java/lang/invoke/MethodHandle" ∧ y.cls ≠ "java/lang/invoke/VarHandle") (hs : (Cond.selects C y y).before args s = true) (hi : (Cond.instanceMethod y).before args s = true) (hp : s.PrivateAt y) : (Cond.selects y.cls y y).before args s = true := by
  obtain ⟨c0, r, m0, h1, h2, h3, h4, k, h5, h6⟩ := Cond.selects_spec hs
  obtain ⟨mk, methM, hnamed, hmethM, -, -⟩ := Cond.instanceMethod_spec hi
  cases h3.symm.trans hnamed
  have hpr := hp _ _ hnamed hmethM
  have hc := findClass_of_methodNamed hnamed
  cases (State.methodFound?_of_named hnamed hy).symm.trans h2
  simp [Cond.before, Cond.holds, Cond.value, hc, h2, hnamed, selectMethod_private hmethM hpr, h5, h6]
theorem own_nf2 {C : String} {y y2 : MethodName} {args : Array Value} (hc2 : y2.cls = y.cls) (w2 : (Cond.instanceMethod y2).before args s = true) (ws : (Cond.selects C y2 y2).before args s = true) : NotFace s y := fun r0 h0 => by
  obtain ⟨mk2, methM2, hnamed2, -, -, -⟩ := Cond.instanceMethod_spec w2
  obtain ⟨kr, q1, q2⟩ := notFace_of_selects ws mk2 hnamed2
  have e1 := findClass_of_methodNamed h0
  have e2 := findClass_of_methodNamed hnamed2
  rw [hc2, e1] at e2
  exact ⟨kr, by rw [Option.some.inj e2]; exact q1, q2⟩
theorem o_nf2 (W : Wk p l e R s m args below meth c own Z hb ws I T h locs cells slots) {C : String} {y y2 : MethodName} (hc2 : y2.cls = y.cls) (w2 : (Cond.instanceMethod y2).before a0 Z = true) (w : (Cond.selects C y2 y2).before a0 Z = true) : NotFace s y := own_nf2 (args := #[]) hc2 (mvT W.2.2.2.1 w2) (mvT W.2.2.2.1 w)
theorem own_sameN {C : String} {y y2 : MethodName} (hy : y.cls ≠ "java/lang/invoke/MethodHandle" ∧ y.cls ≠ "java/lang/invoke/VarHandle") (w : (Cond.instanceMethod y).before a0 Z = true) (hc2 : y2.cls = y.cls) (w2 : (Cond.instanceMethod y2).before a0 Z = true) (ws : (Cond.selects C y2 y2).before a0 Z = true) : (Cond.sameMethod y.cls y.cls y.name y.desc).before a0 Z = true := by
  obtain ⟨mk, methM, hnamed, hmethM, -, -⟩ := Cond.instanceMethod_spec w
  have hc := findClass_of_methodNamed hnamed
  have h2 := State.methodFound?_of_named hnamed hy
  obtain ⟨kr, q1, q2⟩ := own_nf2 hc2 w2 ws mk hnamed
  simp [Cond.before, Cond.holds, Cond.value, hc, h2, hnamed, q1, q2]
theorem o_private (W : Wk p l e R s m args below meth c own Z hb ws I T h locs cells slots) {index : Nat} {y : MethodName} {bytes : ByteArray} {maxL : Nat} {ret : Option FieldType} {C K0 : String} (w1 : (Cond.methodLink own index y).before a0 Z = true) (w2 : (Cond.instanceMethod y).before a0 Z = true) (w3 : (Cond.selects C y y).before a0 Z = true) (w4 : (Cond.privateMethod y).before a0 Z = true) (w5 : (Cond.code y bytes maxL ret).before a0 Z = true)
    (hy : y.cls ≠ "java/lang/invoke/MethodHandle" ∧ y.cls ≠ "java/lang/invoke/VarHandle") {Wd kc ks : Nat} {Q : Option Value → Heap → List Loc → Prop} {a : Addr} (E : Exa Z h a K0) {argsL : List Value} (B : BackQ l R p e below s args y 3 Wd (.ref a :: argsL).toArray h kc ks Q) (hml : L.size = c.maxLocals)
    (hlen : ∀ sig, parseMethodDescriptor y.desc = some sig → argsL.length = sig.parameters.length) {S0 : List Value} (hS : S0 = argsL.reverse ++ .ref a :: S) (hW : 2 * 0 + (S.map fun v => v.category).sum ≤ Wd) (hd : decode c.code pc = .ok (.invokevirtual index, 3)) (hp : pc + 3 = pc')
    (hc' : cells + kc = cells') (hs' : slots + ks = slots') (hc : cells' ≤ R.cells) (hs : slots' ≤ R.slots) {wy : List Addr} (hq : ∀ v hh L, Q v hh L → Fr Z.heap.size L ∧ Keep h hh wy) (hg : ∀ x ∈ wy, Z.heap.size ≤ x ∧ (x ∈ ws ∨ hb.size ≤ x)) (hI : ∀ h', Keep h h' wy → I h')
    (K : ∀ v T' h' Lc, Wk p l e R s m args below meth c own Z hb ws I T' h' (locs ++ Lc) cells' slots' → Keep h h' wy → Q v h' Lc → Gl p.tables e below P T' m pc' L (v.toList ++ S)) : Gl p.tables e below P T m pc L S0 := by
  subst hp hc' hs' hS
  obtain ⟨cl, q1, q2⟩ := E.cell
  have hpv : s.PrivateAt y := Cond.privateMethod_at (mvP W.2.2.2.1 w4 (args := #[]))
  obtain ⟨v, vm₁, B', -, X', hpost, st⟩ := W.1.privateBack W.2.1 W.2.2.2.2.1 (mvT W.2.2.2.1 w1) (mvT W.2.2.2.1 w2) (own_selSelf hy (mvT W.2.2.2.1 w3) (mvT W.2.2.2.1 w2) hpv) hpv (mvT W.2.2.2.1 w5) hy B (g := mkF m pc L (argsL.reverse ++ .ref a :: S)) rfl hml (Steps.refl _) (by rw [W.2.2.1]; exact q1) q2 hlen rfl hW hd (fun _ _ => ⟨rfl, W.2.2.1, hc, hs⟩)
  obtain ⟨Lc, q, k, W'⟩ := o_after W X' hpost hq hg hI
  exact Gl.tr st (K v _ _ Lc W' k q)
theorem o_copy (W : Wk p l e R s m args below meth c own Z hb ws I T h locs cells slots) {index : Nat} (w1 : (Cond.methodLink own index Jvm.Stand.acN).before a0 Z = true) (w2 : (Cond.native Jvm.Stand.acN).before a0 Z = true) (w3 : (Cond.static Jvm.Stand.acN).before a0 Z = true) (w4 : (Cond.initialized "java/lang/System").before a0 Z = true)
    {a b : Addr} {k k' : ClassId} {ty ty' : FieldType} {z z' sp dp nn : Int32} {vs vd us vd' : List Value} {dv dd : Value} (A : Arv Z h a k ty z vs dv) (B : Arv Z h b k' ty' z' vd dd) (hty : (ty = ty' ∧ refKind ty = false) ∨ (refKind ty = true ∧ refKind ty' = true ∧ StoL Z h b us))
    (h1 : ¬ sp < 0) (h2 : ¬ dp < 0) (h3 : ¬ nn < 0) (h4 : sp.toNatClampNeg + nn.toNatClampNeg ≤ z.toNatClampNeg) (h5 : dp.toNatClampNeg + nn.toNatClampNeg ≤ z'.toNatClampNeg)
    (hus : us = (List.range nn.toNatClampNeg).map fun i => vs.getD (sp.toNatClampNeg + i) dv) (hl : dp.toNatClampNeg + nn.toNatClampNeg ≤ vd.length) (hvd : vd.take dp.toNatClampNeg ++ us ++ vd.drop (dp.toNatClampNeg + nn.toNatClampNeg) = vd')
    (g1 : Z.heap.size ≤ b) (g2 : b ∈ ws ∨ hb.size ≤ b) (hI : ∀ h', Keep h h' [b] → I h') (hml : L.size = c.maxLocals) (hd : decode c.code pc = .ok (.invokestatic index, 3)) (hp : pc + 3 = pc') (hf : 1 ≤ R.frames) (Wd : Nat) (hW : 2 * 0 + (S.map fun v => v.category).sum ≤ Wd) (hlo : Wd + (nativeFrameWords "java/lang/System" "arraycopy" 5 + 11) ≤ R.locals)
    (K : ∀ T' h' locs', Wk p l e R s m args below meth c own Z hb ws I T' h' locs' cells slots → Keep h h' [b] → Arv Z h' b k' ty' z' vd' dd → Gl p.tables e below P T' m pc' L S) : Gl p.tables e below P T m pc L (.int nn :: .int dp :: .ref b :: .int sp :: .ref a :: S) := by
  subst hp hvd
  obtain ⟨X, hx, eT, hZ, ho, o, fr, kp, i⟩ := W
  obtain ⟨T', h', L1, X', e', F', K', V', st⟩ := cpA X hx hZ ho w1 w2 w3 w4 eT A B hty h1 h2 h3 h4 h5 hus hl fr g1 (g := mkF m pc L (.int nn :: .int dp :: .ref b :: .int sp :: .ref a :: S)) rfl hml rfl hd hf hW hlo
  exact Gl.st st (K T' h' _ ⟨X', hx, e', hZ, ho, o.keep K' (allS g1 all0), F', kp.trans K' (allS g2 all0), hI _ K'⟩ K' V')
theorem o_super (W : Wk p l e R s m args below meth c own Z hb ws I T h locs cells slots) {index : Nat} {y : MethodName} {bytes : ByteArray} {maxL : Nat} {ret : Option FieldType} {K0 : String} (hn : y.name ≠ "<init>") (w1 : (Cond.methodLink own index y).before a0 Z = true) (w2 : (Cond.instanceMethod y).before a0 Z = true) (w3 : (Cond.sameMethod y.cls y.cls y.name y.desc).before a0 Z = true) (w5 : (Cond.superclass own y.cls).before a0 Z = true) (w4 : (Cond.code y bytes maxL ret).before a0 Z = true)
    {Wd kc ks : Nat} {Q : Option Value → Heap → List Loc → Prop} {a : Addr} (F : Ins Z h a K0 true) {argsL : List Value} (B : BackQ l R p e below s args y 3 Wd (.ref a :: argsL).toArray h kc ks Q) (hml : L.size = c.maxLocals)
    (hlen : ∀ sig, parseMethodDescriptor y.desc = some sig → argsL.length = sig.parameters.length) {S0 : List Value} (hS : S0 = argsL.reverse ++ .ref a :: S) (hW : 2 * 0 + (S.map fun v => v.category).sum ≤ Wd) (hd : decode c.code pc = .ok (.invokespecial index, 3)) (hp : pc + 3 = pc')
    (hc' : cells + kc = cells') (hs' : slots + ks = slots') (hc : cells' ≤ R.cells) (hs : slots' ≤ R.slots) {wy : List Addr} (hq : ∀ v hh L, Q v hh L → Fr Z.heap.size L ∧ Keep h hh wy) (hg : ∀ x ∈ wy, Z.heap.size ≤ x ∧ (x ∈ ws ∨ hb.size ≤ x)) (hI : ∀ h', Keep h h' wy → I h')
    (K : ∀ v T' h' Lc, Wk p l e R s m args below meth c own Z hb ws I T' h' (locs ++ Lc) cells' slots' → Keep h h' wy → Q v h' Lc → Gl p.tables e below P T' m pc' L (v.toList ++ S)) : Gl p.tables e below P T m pc L S0 := by
  subst hp hc' hs' hS
  obtain ⟨v, vm₁, B', -, X', hpost, st⟩ := superBack W.1 W.2.1 W.2.2.2.1 W.2.2.2.2.1 w1 w3 w2 w5 hn B W.2.2.1 F (g := mkF m pc L (argsL.reverse ++ .ref a :: S)) rfl hml w4 hlen rfl hW hd (fun _ _ => ⟨rfl, W.2.2.1, hc, hs⟩)
  obtain ⟨Lc, q, k, W'⟩ := o_after W X' hpost hq hg hI
  exact Gl.tr st (K v _ _ Lc W' k q)
end OwnMore
set_option maxRecDepth 65536
set_option maxHeartbeats 40000000

def own_b (x : Int32) : Prop := ¬ x < 0 ∧ ¬ (255 : Int32) < x
def own_01 (x : Int32) : Prop := x = 0 ∨ x = 1
def own_ok (cs : List Int32) : Prop := (∀ c ∈ cs, own_b c) ∧ cs.length ≤ 4000
def own_eq (cs ds : List Int32) : Int32 := if cs = ds then 1 else 0
theorem own_eq01 (cs ds : List Int32) : own_01 (own_eq cs ds) := by unfold own_eq own_01; split <;> simp
theorem own_eq_symm (cs ds : List Int32) : own_eq cs ds = own_eq ds cs := by
  unfold own_eq
  by_cases h : cs = ds
  · rw [if_pos h, if_pos h.symm]
  · rw [if_neg h, if_neg (Ne.symm h)]
theorem own_lcs (x : Int64) : lcmpW x x = 0 := by simp [lcmpW]
theorem own_eqne (cs : List Int32) : ¬ own_eq cs cs = 0 := by unfold own_eq; rw [if_pos rfl]; decide
theorem own_ite0 {P : Prop} [Decidable P] (h : ¬ P) : (0 : Int32) = if P then 1 else 0 := (if_neg h).symm
theorem own_ite1 {P : Prop} [Decidable P] (h : P) : (1 : Int32) = if P then 1 else 0 := (if_pos h).symm
theorem own_b255 (x : Int32) : own_b (x &&& (255 : Int32)) := by
  have h := c_andS x 255
  have h1 : (x &&& (255 : Int32)).toBitVec.toNat ≤ 255 := by
    rw [Int32.toBitVec_and, BitVec.toNat_and]; exact Nat.and_le_right
  have h0 := h.2.2 (by decide)
  have e : (x &&& (255 : Int32)).toInt = (x &&& (255 : Int32)).toBitVec.toNat := by
    show (x &&& (255 : Int32)).toBitVec.toInt = _
    rw [BitVec.toInt_eq_toNat_cond, if_pos (by omega)]
  refine ⟨?_, ?_⟩
  · rw [Int32.lt_iff_toInt_lt]; show ¬ _ < (0 : Int); omega
  · rw [Int32.lt_iff_toInt_lt]; show ¬ (255 : Int) < _; omega
theorem own_bnat {x : Int32} (h : own_b x) : x.toBitVec.toNat ≤ 255 ∧ x.toInt = x.toBitVec.toNat := by
  obtain ⟨h0, h1⟩ := h
  rw [Int32.lt_iff_toInt_lt] at h0 h1
  have e0 : (0 : Int32).toInt = 0 := rfl
  have e1 : (255 : Int32).toInt = 255 := rfl
  have := x.toBitVec.isLt
  have e : x.toInt = x.toBitVec.toInt := rfl
  have e2 : x.toBitVec.toInt = if 2 * x.toBitVec.toNat < 2 ^ 32 then (x.toBitVec.toNat : Int) else (x.toBitVec.toNat : Int) - ((2 ^ 32 : Nat) : Int) := BitVec.toInt_eq_toNat_cond x.toBitVec
  split at e2 <;> omega
theorem own_i2c {x : Int32} (h : own_b x) : x.toUInt32.toUInt16.toUInt32.toInt32 = x := by
  obtain ⟨h1, -⟩ := own_bnat h
  apply Int32.toBitVec_inj.mp
  apply BitVec.eq_of_toNat_eq
  show (BitVec.setWidth 32 (BitVec.setWidth 16 x.toBitVec)).toNat = _
  simp only [BitVec.toNat_setWidth]
  omega
theorem own_fitC {x : Int32} (h : own_b x) : fits .char (.int x) = true := by
  have q := fits_nar_char x
  have e : nar .char x = x := own_i2c h
  rw [e] at q; exact q
theorem own_nar01 {x : Int32} (h : own_01 x) : x &&& 1 = x := by rcases h with rfl | rfl <;> decide
theorem own_fit01 {x : Int32} (h : own_01 x) : fits .boolean (.int x) = true := by rcases h with rfl | rfl <;> decide
theorem own_up {cs : List Int32} (h : own_ok cs) : ∀ c ∈ cs, ¬ c < 0 ∧ ¬ (65535 : Int32) < c := fun c hc => by
  obtain ⟨h0, h1⟩ := h.1 c hc
  refine ⟨h0, fun q => h1 ?_⟩
  rw [Int32.lt_iff_toInt_lt] at q ⊢
  have e0 : (65535 : Int32).toInt = 65535 := rfl
  have e1 : (255 : Int32).toInt = 255 := rfl
  omega
theorem own_eqv {v : Option Value} {cs ds : List Int32} (h : (v = some (.int 1) ∧ cs = ds) ∨ (v = some (.int 0) ∧ ¬ cs = ds)) : v = some (.int (own_eq cs ds)) := by
  unfold own_eq
  rcases h with ⟨rfl, h⟩ | ⟨rfl, h⟩
  · rw [if_pos h]
  · rw [if_neg h]
theorem own_b8 (x : Int32) : x.toInt8.toInt32.toInt8.toInt32 = x.toInt8.toInt32 := by simp
theorem own_fit8 (x : Int32) : fits .byte (.int x.toInt8.toInt32) = true := fits_nar_byte x
theorem own_shr8 {x : Int32} (h : own_b x) : (x.toUInt32 >>> ((8 : Int32) &&& 31).toUInt32).toInt32 = 0 := by
  obtain ⟨h1, -⟩ := own_bnat h
  apply Int32.toBitVec_inj.mp
  apply BitVec.eq_of_toNat_eq
  have e : ((8 : Int32) &&& 31).toUInt32 = 8 := by decide
  rw [e]
  show (x.toUInt32 >>> 8).toBitVec.toNat = 0
  rw [UInt32.toBitVec_shiftRight]
  show (x.toBitVec >>> (8 : UInt32).toBitVec.umod 32).toNat = 0
  rw [BitVec.ushiftRight_eq', BitVec.toNat_ushiftRight, show ((8 : UInt32).toBitVec.umod 32).toNat = 8 by decide, Nat.shiftRight_eq_div_pow]
  omega
theorem own_eqS {args : Array Value} {Z : State} {t : Term} {x : Int32} (h : t.eval args Z none [] Z = some (.int x)) : (Jvm.Cond.eq t (.int 0)).value args Z none Z [] = some (decide (x = 0)) := by
  simp [Cond.value, h, Term.eval]
theorem own_same {n : Nat} {L : List Loc} {h hh : Heap} (q : L = [] ∧ hh = h) : Fr n L ∧ Keep h hh [] := by
  obtain ⟨rfl, rfl⟩ := q
  exact ⟨Fr.nil _, Keep.refl _ _⟩
theorem own_hV {Z : State} {a0 : Array Value} (hw : ∀ d ∈ tables_1, d.before a0 Z = true) : ∀ d ∈ StrChars.Road.words, d.before a0 Z = true := fun d hd => hw d ((by decide +kernel : ∀ w ∈ StrChars.Road.words, w ∈ tables_1) d hd)
theorem own_wS {Z : State} {a0 : Array Value} (hw : ∀ d ∈ tables_1, d.before a0 Z = true) : ∀ a ∈ Bundle.stringAtoms, a.before a0 Z = true := fun d hd => hw d ((by decide +kernel : ∀ w ∈ Bundle.stringAtoms, w ∈ tables_1) d hd)
theorem own_EL {Z : State} {a0 : Array Value} (hw : ∀ d ∈ tables_1, d.before a0 Z = true) : EW Z a0 consts_1 := (EW.cons (hw _ (List.mem_of_getElem? (i := 39) rfl)) (by decide) (EW.cons (hw _ (List.mem_of_getElem? (i := 79) rfl)) (by decide) (EW.cons (hw _ (List.mem_of_getElem? (i := 14) rfl)) (by decide) EW.nil)))
theorem own_EL16 {Z : State} {a0 : Array Value} (hw : ∀ d ∈ tables_1, d.before a0 Z = true) : ELn Z a0 consts_1 16 := (ELn.cons (hw _ (List.mem_of_getElem? (i := 39) rfl)) (by decide) (by decide) (ELn.cons (hw _ (List.mem_of_getElem? (i := 79) rfl)) (by decide) (by decide) (ELn.cons (hw _ (List.mem_of_getElem? (i := 14) rfl)) (by decide) (by decide) ELn.nil)))

theorem w0 {Z : State} {a0 : Array Value} (hw : ∀ d ∈ tables_1, d.before a0 Z = true) : ((Jvm.Cond.arrayClass Jvm.ClassFile.FieldType.char)).before a0 Z = true := hw _ (List.mem_of_getElem? (i := 0) rfl)
theorem w1 {Z : State} {a0 : Array Value} (hw : ∀ d ∈ tables_1, d.before a0 Z = true) : ((Jvm.Cond.classLink "com/example/countersign/countersign/VerdictInvalidPinLaw" (7 : Nat) "java/lang/String")).before a0 Z = true := hw _ (List.mem_of_getElem? (i := 1) rfl)
theorem w2 {Z : State} {a0 : Array Value} (hw : ∀ d ∈ tables_1, d.before a0 Z = true) : ((Jvm.Cond.instantiable "java/lang/String" (4 : Nat))).before a0 Z = true := hw _ (List.mem_of_getElem? (i := 2) rfl)
theorem w3 {Z : State} {a0 : Array Value} (hw : ∀ d ∈ tables_1, d.before a0 Z = true) : ((Jvm.Cond.initialized "java/lang/String")).before a0 Z = true := hw _ (List.mem_of_getElem? (i := 3) rfl)
theorem w4 {Z : State} {a0 : Array Value} (hw : ∀ d ∈ tables_1, d.before a0 Z = true) : ((Jvm.Cond.methodLink "com/example/countersign/countersign/VerdictInvalidPinLaw" (9 : Nat) ({ cls := "java/lang/String", name := "<init>", desc := "([C)V" } : Jvm.MethodName))).before a0 Z = true := hw _ (List.mem_of_getElem? (i := 4) rfl)
theorem w5 {Z : State} {a0 : Array Value} (hw : ∀ d ∈ tables_1, d.before a0 Z = true) : ((Jvm.Cond.instanceMethod ({ cls := "java/lang/String", name := "<init>", desc := "([C)V" } : Jvm.MethodName))).before a0 Z = true := hw _ (List.mem_of_getElem? (i := 5) rfl)
theorem w6 {Z : State} {a0 : Array Value} (hw : ∀ d ∈ tables_1, d.before a0 Z = true) : ((Jvm.Cond.code ({ cls := "java/lang/String", name := "<init>", desc := "([C)V" } : Jvm.MethodName) jdk_42_method_3_code (2 : Nat) (Option.none : Option Jvm.ClassFile.FieldType))).before a0 Z = true := hw _ (List.mem_of_getElem? (i := 6) rfl)
theorem w7 {Z : State} {a0 : Array Value} (hw : ∀ d ∈ tables_1, d.before a0 Z = true) : ((Jvm.Cond.methodLink "java/lang/String" (27 : Nat) ({ cls := "java/lang/String", name := "<init>", desc := "([CIILjava/lang/Void;)V" } : Jvm.MethodName))).before a0 Z = true := hw _ (List.mem_of_getElem? (i := 7) rfl)
theorem w8 {Z : State} {a0 : Array Value} (hw : ∀ d ∈ tables_1, d.before a0 Z = true) : ((Jvm.Cond.instanceMethod ({ cls := "java/lang/String", name := "<init>", desc := "([CIILjava/lang/Void;)V" } : Jvm.MethodName))).before a0 Z = true := hw _ (List.mem_of_getElem? (i := 8) rfl)
theorem w10 {Z : State} {a0 : Array Value} (hw : ∀ d ∈ tables_1, d.before a0 Z = true) : ((Jvm.Cond.code ({ cls := "java/lang/String", name := "<init>", desc := "([CIILjava/lang/Void;)V" } : Jvm.MethodName) jdk_42_method_149_code (6 : Nat) (Option.none : Option Jvm.ClassFile.FieldType))).before a0 Z = true := hw _ (List.mem_of_getElem? (i := 10) rfl)
theorem w11 {Z : State} {a0 : Array Value} (hw : ∀ d ∈ tables_1, d.before a0 Z = true) : ((Jvm.Cond.methodLink "java/lang/String" (1 : Nat) ({ cls := "java/lang/Object", name := "<init>", desc := "()V" } : Jvm.MethodName))).before a0 Z = true := hw _ (List.mem_of_getElem? (i := 11) rfl)
theorem w12 {Z : State} {a0 : Array Value} (hw : ∀ d ∈ tables_1, d.before a0 Z = true) : ((Jvm.Cond.instanceMethod ({ cls := "java/lang/Object", name := "<init>", desc := "()V" } : Jvm.MethodName))).before a0 Z = true := hw _ (List.mem_of_getElem? (i := 12) rfl)
theorem w13 {Z : State} {a0 : Array Value} (hw : ∀ d ∈ tables_1, d.before a0 Z = true) : ((Jvm.Cond.code ({ cls := "java/lang/Object", name := "<init>", desc := "()V" } : Jvm.MethodName) object_method_1_code (1 : Nat) (Option.none : Option Jvm.ClassFile.FieldType))).before a0 Z = true := hw _ (List.mem_of_getElem? (i := 13) rfl)
theorem w14 {Z : State} {a0 : Array Value} (hw : ∀ d ∈ tables_1, d.before a0 Z = true) : ((Jvm.Cond.stringLink "java/lang/String" (7 : Nat) "")).before a0 Z = true := hw _ (List.mem_of_getElem? (i := 14) rfl)
theorem w15 {Z : State} {a0 : Array Value} (hw : ∀ d ∈ tables_1, d.before a0 Z = true) : ((Jvm.Cond.arrayClass Jvm.ClassFile.FieldType.byte)).before a0 Z = true := hw _ (List.mem_of_getElem? (i := 15) rfl)
theorem w16 {Z : State} {a0 : Array Value} (hw : ∀ d ∈ tables_1, d.before a0 Z = true) : ((Jvm.Cond.laysFinal "java/lang/String" "java/lang/String" "value" "[B")).before a0 Z = true := hw _ (List.mem_of_getElem? (i := 16) rfl)
theorem w17 {Z : State} {a0 : Array Value} (hw : ∀ d ∈ tables_1, d.before a0 Z = true) : ((Jvm.Cond.laysFinal "java/lang/String" "java/lang/String" "coder" "B")).before a0 Z = true := hw _ (List.mem_of_getElem? (i := 17) rfl)
theorem w20 {Z : State} {a0 : Array Value} (hw : ∀ d ∈ tables_1, d.before a0 Z = true) : ((Jvm.Cond.fieldLink "java/lang/String" (9 : Nat) "java/lang/String" "value" "[B")).before a0 Z = true := hw _ (List.mem_of_getElem? (i := 20) rfl)
theorem w21 {Z : State} {a0 : Array Value} (hw : ∀ d ∈ tables_1, d.before a0 Z = true) : ((Jvm.Cond.fieldLink "java/lang/String" (15 : Nat) "java/lang/String" "coder" "B")).before a0 Z = true := hw _ (List.mem_of_getElem? (i := 21) rfl)
theorem w22 {Z : State} {a0 : Array Value} (hw : ∀ d ∈ tables_1, d.before a0 Z = true) : ((Jvm.Cond.fieldLink "java/lang/String" (38 : Nat) "java/lang/String" "COMPACT_STRINGS" "Z")).before a0 Z = true := hw _ (List.mem_of_getElem? (i := 22) rfl)
theorem w33 {Z : State} {a0 : Array Value} (hw : ∀ d ∈ tables_1, d.before a0 Z = true) : ((Jvm.Cond.methodLink "com/example/countersign/countersign/VerdictInvalidPinLaw" (12 : Nat) ({ cls := "com/example/countersign/countersign/Verdict", name := "invalid", desc := "(Ljava/lang/String;)Lcom/example/countersign/countersign/Verdict;" } : Jvm.MethodName))).before a0 Z = true := hw _ (List.mem_of_getElem? (i := 33) rfl)
theorem w34 {Z : State} {a0 : Array Value} (hw : ∀ d ∈ tables_1, d.before a0 Z = true) : ((Jvm.Cond.static ({ cls := "com/example/countersign/countersign/Verdict", name := "invalid", desc := "(Ljava/lang/String;)Lcom/example/countersign/countersign/Verdict;" } : Jvm.MethodName))).before a0 Z = true := hw _ (List.mem_of_getElem? (i := 34) rfl)
theorem w35 {Z : State} {a0 : Array Value} (hw : ∀ d ∈ tables_1, d.before a0 Z = true) : ((Jvm.Cond.initialized "com/example/countersign/countersign/Verdict")).before a0 Z = true := hw _ (List.mem_of_getElem? (i := 35) rfl)
theorem w36 {Z : State} {a0 : Array Value} (hw : ∀ d ∈ tables_1, d.before a0 Z = true) : ((Jvm.Cond.code ({ cls := "com/example/countersign/countersign/Verdict", name := "invalid", desc := "(Ljava/lang/String;)Lcom/example/countersign/countersign/Verdict;" } : Jvm.MethodName) prog_11_method_3_code (1 : Nat) (Option.some (Jvm.ClassFile.FieldType.object "com/example/countersign/countersign/Verdict")))).before a0 Z = true := hw _ (List.mem_of_getElem? (i := 36) rfl)
theorem w37 {Z : State} {a0 : Array Value} (hw : ∀ d ∈ tables_1, d.before a0 Z = true) : ((Jvm.Cond.classLink "com/example/countersign/countersign/Verdict" (8 : Nat) "com/example/countersign/countersign/Verdict")).before a0 Z = true := hw _ (List.mem_of_getElem? (i := 37) rfl)
theorem w38 {Z : State} {a0 : Array Value} (hw : ∀ d ∈ tables_1, d.before a0 Z = true) : ((Jvm.Cond.instantiable "com/example/countersign/countersign/Verdict" (1 : Nat))).before a0 Z = true := hw _ (List.mem_of_getElem? (i := 38) rfl)
theorem w39 {Z : State} {a0 : Array Value} (hw : ∀ d ∈ tables_1, d.before a0 Z = true) : ((Jvm.Cond.stringLink "com/example/countersign/countersign/Verdict" (17 : Nat) "reason")).before a0 Z = true := hw _ (List.mem_of_getElem? (i := 39) rfl)
theorem w40 {Z : State} {a0 : Array Value} (hw : ∀ d ∈ tables_1, d.before a0 Z = true) : ((Jvm.Cond.methodLink "com/example/countersign/countersign/Verdict" (18 : Nat) ({ cls := "java/util/Objects", name := "requireNonNull", desc := "(Ljava/lang/Object;Ljava/lang/String;)Ljava/lang/Object;" } : Jvm.MethodName))).before a0 Z = true := hw _ (List.mem_of_getElem? (i := 40) rfl)
theorem w41 {Z : State} {a0 : Array Value} (hw : ∀ d ∈ tables_1, d.before a0 Z = true) : ((Jvm.Cond.static ({ cls := "java/util/Objects", name := "requireNonNull", desc := "(Ljava/lang/Object;Ljava/lang/String;)Ljava/lang/Object;" } : Jvm.MethodName))).before a0 Z = true := hw _ (List.mem_of_getElem? (i := 41) rfl)
theorem w42 {Z : State} {a0 : Array Value} (hw : ∀ d ∈ tables_1, d.before a0 Z = true) : ((Jvm.Cond.initialized "java/util/Objects")).before a0 Z = true := hw _ (List.mem_of_getElem? (i := 42) rfl)
theorem w43 {Z : State} {a0 : Array Value} (hw : ∀ d ∈ tables_1, d.before a0 Z = true) : ((Jvm.Cond.code ({ cls := "java/util/Objects", name := "requireNonNull", desc := "(Ljava/lang/Object;Ljava/lang/String;)Ljava/lang/Object;" } : Jvm.MethodName) jdk_31_method_11_code (2 : Nat) (Option.some (Jvm.ClassFile.FieldType.object "java/lang/Object")))).before a0 Z = true := hw _ (List.mem_of_getElem? (i := 43) rfl)
theorem w44 {Z : State} {a0 : Array Value} (hw : ∀ d ∈ tables_1, d.before a0 Z = true) : ((Jvm.Cond.classLink "com/example/countersign/countersign/Verdict" (24 : Nat) "java/lang/String")).before a0 Z = true := hw _ (List.mem_of_getElem? (i := 44) rfl)
theorem w45 {Z : State} {a0 : Array Value} (hw : ∀ d ∈ tables_1, d.before a0 Z = true) : ((Jvm.Cond.methodLink "com/example/countersign/countersign/Verdict" (26 : Nat) ({ cls := "com/example/countersign/countersign/Verdict", name := "<init>", desc := "(Ljava/lang/String;)V" } : Jvm.MethodName))).before a0 Z = true := hw _ (List.mem_of_getElem? (i := 45) rfl)
theorem w46 {Z : State} {a0 : Array Value} (hw : ∀ d ∈ tables_1, d.before a0 Z = true) : ((Jvm.Cond.instanceMethod ({ cls := "com/example/countersign/countersign/Verdict", name := "<init>", desc := "(Ljava/lang/String;)V" } : Jvm.MethodName))).before a0 Z = true := hw _ (List.mem_of_getElem? (i := 46) rfl)
theorem w47 {Z : State} {a0 : Array Value} (hw : ∀ d ∈ tables_1, d.before a0 Z = true) : ((Jvm.Cond.code ({ cls := "com/example/countersign/countersign/Verdict", name := "<init>", desc := "(Ljava/lang/String;)V" } : Jvm.MethodName) prog_11_method_1_code (2 : Nat) (Option.none : Option Jvm.ClassFile.FieldType))).before a0 Z = true := hw _ (List.mem_of_getElem? (i := 47) rfl)
theorem w48 {Z : State} {a0 : Array Value} (hw : ∀ d ∈ tables_1, d.before a0 Z = true) : ((Jvm.Cond.methodLink "com/example/countersign/countersign/Verdict" (1 : Nat) ({ cls := "java/lang/Object", name := "<init>", desc := "()V" } : Jvm.MethodName))).before a0 Z = true := hw _ (List.mem_of_getElem? (i := 48) rfl)
theorem w49 {Z : State} {a0 : Array Value} (hw : ∀ d ∈ tables_1, d.before a0 Z = true) : ((Jvm.Cond.fieldLink "com/example/countersign/countersign/Verdict" (7 : Nat) "com/example/countersign/countersign/Verdict" "reason" "Ljava/lang/String;")).before a0 Z = true := hw _ (List.mem_of_getElem? (i := 49) rfl)
theorem w50 {Z : State} {a0 : Array Value} (hw : ∀ d ∈ tables_1, d.before a0 Z = true) : ((Jvm.Cond.laysFinal "com/example/countersign/countersign/Verdict" "com/example/countersign/countersign/Verdict" "reason" "Ljava/lang/String;")).before a0 Z = true := hw _ (List.mem_of_getElem? (i := 50) rfl)
theorem w51 {Z : State} {a0 : Array Value} (hw : ∀ d ∈ tables_1, d.before a0 Z = true) : ((Jvm.Cond.methodLink "com/example/countersign/countersign/VerdictInvalidPinLaw" (18 : Nat) ({ cls := "com/example/countersign/countersign/Verdict", name := "isValid", desc := "()Z" } : Jvm.MethodName))).before a0 Z = true := hw _ (List.mem_of_getElem? (i := 51) rfl)
theorem w52 {Z : State} {a0 : Array Value} (hw : ∀ d ∈ tables_1, d.before a0 Z = true) : ((Jvm.Cond.declares ({ cls := "com/example/countersign/countersign/Verdict", name := "isValid", desc := "()Z" } : Jvm.MethodName))).before a0 Z = true := hw _ (List.mem_of_getElem? (i := 52) rfl)
theorem w53 {Z : State} {a0 : Array Value} (hw : ∀ d ∈ tables_1, d.before a0 Z = true) : ((Jvm.Cond.instanceMethod ({ cls := "com/example/countersign/countersign/Verdict", name := "isValid", desc := "()Z" } : Jvm.MethodName))).before a0 Z = true := hw _ (List.mem_of_getElem? (i := 53) rfl)
theorem w54 {Z : State} {a0 : Array Value} (hw : ∀ d ∈ tables_1, d.before a0 Z = true) : ((Jvm.Cond.selects "com/example/countersign/countersign/Verdict" ({ cls := "com/example/countersign/countersign/Verdict", name := "isValid", desc := "()Z" } : Jvm.MethodName) ({ cls := "com/example/countersign/countersign/Verdict", name := "isValid", desc := "()Z" } : Jvm.MethodName))).before a0 Z = true := hw _ (List.mem_of_getElem? (i := 54) rfl)
theorem w55 {Z : State} {a0 : Array Value} (hw : ∀ d ∈ tables_1, d.before a0 Z = true) : ((Jvm.Cond.code ({ cls := "com/example/countersign/countersign/Verdict", name := "isValid", desc := "()Z" } : Jvm.MethodName) prog_11_method_4_code (1 : Nat) (Option.some Jvm.ClassFile.FieldType.boolean))).before a0 Z = true := hw _ (List.mem_of_getElem? (i := 55) rfl)
theorem w56 {Z : State} {a0 : Array Value} (hw : ∀ d ∈ tables_1, d.before a0 Z = true) : ((Jvm.Cond.methodLink "com/example/countersign/countersign/VerdictInvalidPinLaw" (22 : Nat) ({ cls := "com/example/countersign/countersign/Verdict", name := "toString", desc := "()Ljava/lang/String;" } : Jvm.MethodName))).before a0 Z = true := hw _ (List.mem_of_getElem? (i := 56) rfl)
theorem w57 {Z : State} {a0 : Array Value} (hw : ∀ d ∈ tables_1, d.before a0 Z = true) : ((Jvm.Cond.declares ({ cls := "com/example/countersign/countersign/Verdict", name := "toString", desc := "()Ljava/lang/String;" } : Jvm.MethodName))).before a0 Z = true := hw _ (List.mem_of_getElem? (i := 57) rfl)
theorem w58 {Z : State} {a0 : Array Value} (hw : ∀ d ∈ tables_1, d.before a0 Z = true) : ((Jvm.Cond.instanceMethod ({ cls := "com/example/countersign/countersign/Verdict", name := "toString", desc := "()Ljava/lang/String;" } : Jvm.MethodName))).before a0 Z = true := hw _ (List.mem_of_getElem? (i := 58) rfl)
theorem w59 {Z : State} {a0 : Array Value} (hw : ∀ d ∈ tables_1, d.before a0 Z = true) : ((Jvm.Cond.selects "com/example/countersign/countersign/Verdict" ({ cls := "com/example/countersign/countersign/Verdict", name := "toString", desc := "()Ljava/lang/String;" } : Jvm.MethodName) ({ cls := "com/example/countersign/countersign/Verdict", name := "toString", desc := "()Ljava/lang/String;" } : Jvm.MethodName))).before a0 Z = true := hw _ (List.mem_of_getElem? (i := 59) rfl)
theorem w60 {Z : State} {a0 : Array Value} (hw : ∀ d ∈ tables_1, d.before a0 Z = true) : ((Jvm.Cond.code ({ cls := "com/example/countersign/countersign/Verdict", name := "toString", desc := "()Ljava/lang/String;" } : Jvm.MethodName) prog_11_method_6_code (1 : Nat) (Option.some (Jvm.ClassFile.FieldType.object "java/lang/String")))).before a0 Z = true := hw _ (List.mem_of_getElem? (i := 60) rfl)
theorem w61 {Z : State} {a0 : Array Value} (hw : ∀ d ∈ tables_1, d.before a0 Z = true) : ((Jvm.Cond.classLink "com/example/countersign/countersign/Verdict" (37 : Nat) "java/lang/StringBuilder")).before a0 Z = true := hw _ (List.mem_of_getElem? (i := 61) rfl)
theorem w62 {Z : State} {a0 : Array Value} (hw : ∀ d ∈ tables_1, d.before a0 Z = true) : ((Jvm.Cond.instantiable "java/lang/StringBuilder" (4 : Nat))).before a0 Z = true := hw _ (List.mem_of_getElem? (i := 62) rfl)
theorem w63 {Z : State} {a0 : Array Value} (hw : ∀ d ∈ tables_1, d.before a0 Z = true) : ((Jvm.Cond.initialized "java/lang/StringBuilder")).before a0 Z = true := hw _ (List.mem_of_getElem? (i := 63) rfl)
theorem w64 {Z : State} {a0 : Array Value} (hw : ∀ d ∈ tables_1, d.before a0 Z = true) : ((Jvm.Cond.methodLink "com/example/countersign/countersign/Verdict" (39 : Nat) ({ cls := "java/lang/StringBuilder", name := "<init>", desc := "()V" } : Jvm.MethodName))).before a0 Z = true := hw _ (List.mem_of_getElem? (i := 64) rfl)
theorem w65 {Z : State} {a0 : Array Value} (hw : ∀ d ∈ tables_1, d.before a0 Z = true) : ((Jvm.Cond.instanceMethod ({ cls := "java/lang/StringBuilder", name := "<init>", desc := "()V" } : Jvm.MethodName))).before a0 Z = true := hw _ (List.mem_of_getElem? (i := 65) rfl)
theorem w66 {Z : State} {a0 : Array Value} (hw : ∀ d ∈ tables_1, d.before a0 Z = true) : ((Jvm.Cond.code ({ cls := "java/lang/StringBuilder", name := "<init>", desc := "()V" } : Jvm.MethodName) jdk_67_method_1_code (1 : Nat) (Option.none : Option Jvm.ClassFile.FieldType))).before a0 Z = true := hw _ (List.mem_of_getElem? (i := 66) rfl)
theorem w67 {Z : State} {a0 : Array Value} (hw : ∀ d ∈ tables_1, d.before a0 Z = true) : ((Jvm.Cond.methodLink "java/lang/StringBuilder" (1 : Nat) ({ cls := "java/lang/AbstractStringBuilder", name := "<init>", desc := "(I)V" } : Jvm.MethodName))).before a0 Z = true := hw _ (List.mem_of_getElem? (i := 67) rfl)
theorem w68 {Z : State} {a0 : Array Value} (hw : ∀ d ∈ tables_1, d.before a0 Z = true) : ((Jvm.Cond.instanceMethod ({ cls := "java/lang/AbstractStringBuilder", name := "<init>", desc := "(I)V" } : Jvm.MethodName))).before a0 Z = true := hw _ (List.mem_of_getElem? (i := 68) rfl)
theorem w71 {Z : State} {a0 : Array Value} (hw : ∀ d ∈ tables_1, d.before a0 Z = true) : ((Jvm.Cond.initialized "java/lang/AbstractStringBuilder")).before a0 Z = true := hw _ (List.mem_of_getElem? (i := 71) rfl)
theorem w72 {Z : State} {a0 : Array Value} (hw : ∀ d ∈ tables_1, d.before a0 Z = true) : ((Jvm.Cond.code ({ cls := "java/lang/AbstractStringBuilder", name := "<init>", desc := "(I)V" } : Jvm.MethodName) jdk_68_method_2_code (2 : Nat) (Option.none : Option Jvm.ClassFile.FieldType))).before a0 Z = true := hw _ (List.mem_of_getElem? (i := 72) rfl)
theorem w73 {Z : State} {a0 : Array Value} (hw : ∀ d ∈ tables_1, d.before a0 Z = true) : ((Jvm.Cond.methodLink "java/lang/AbstractStringBuilder" (3 : Nat) ({ cls := "java/lang/Object", name := "<init>", desc := "()V" } : Jvm.MethodName))).before a0 Z = true := hw _ (List.mem_of_getElem? (i := 73) rfl)
theorem w74 {Z : State} {a0 : Array Value} (hw : ∀ d ∈ tables_1, d.before a0 Z = true) : ((Jvm.Cond.fieldLink "java/lang/AbstractStringBuilder" (18 : Nat) "java/lang/String" "COMPACT_STRINGS" "Z")).before a0 Z = true := hw _ (List.mem_of_getElem? (i := 74) rfl)
theorem w75 {Z : State} {a0 : Array Value} (hw : ∀ d ∈ tables_1, d.before a0 Z = true) : ((Jvm.Cond.fieldLink "java/lang/AbstractStringBuilder" (15 : Nat) "java/lang/AbstractStringBuilder" "value" "[B")).before a0 Z = true := hw _ (List.mem_of_getElem? (i := 75) rfl)
theorem w76 {Z : State} {a0 : Array Value} (hw : ∀ d ∈ tables_1, d.before a0 Z = true) : ((Jvm.Cond.lays "java/lang/StringBuilder" "java/lang/AbstractStringBuilder" "value" "[B")).before a0 Z = true := hw _ (List.mem_of_getElem? (i := 76) rfl)
theorem w77 {Z : State} {a0 : Array Value} (hw : ∀ d ∈ tables_1, d.before a0 Z = true) : ((Jvm.Cond.fieldLink "java/lang/AbstractStringBuilder" (22 : Nat) "java/lang/AbstractStringBuilder" "coder" "B")).before a0 Z = true := hw _ (List.mem_of_getElem? (i := 77) rfl)
theorem w78 {Z : State} {a0 : Array Value} (hw : ∀ d ∈ tables_1, d.before a0 Z = true) : ((Jvm.Cond.lays "java/lang/StringBuilder" "java/lang/AbstractStringBuilder" "coder" "B")).before a0 Z = true := hw _ (List.mem_of_getElem? (i := 78) rfl)
theorem w79 {Z : State} {a0 : Array Value} (hw : ∀ d ∈ tables_1, d.before a0 Z = true) : ((Jvm.Cond.stringLink "com/example/countersign/countersign/Verdict" (40 : Nat) "invalid: ")).before a0 Z = true := hw _ (List.mem_of_getElem? (i := 79) rfl)
theorem w80 {Z : State} {a0 : Array Value} (hw : ∀ d ∈ tables_1, d.before a0 Z = true) : ((Jvm.Cond.methodLink "com/example/countersign/countersign/Verdict" (42 : Nat) ({ cls := "java/lang/StringBuilder", name := "append", desc := "(Ljava/lang/String;)Ljava/lang/StringBuilder;" } : Jvm.MethodName))).before a0 Z = true := hw _ (List.mem_of_getElem? (i := 80) rfl)
theorem w81 {Z : State} {a0 : Array Value} (hw : ∀ d ∈ tables_1, d.before a0 Z = true) : ((Jvm.Cond.declares ({ cls := "java/lang/StringBuilder", name := "append", desc := "(Ljava/lang/String;)Ljava/lang/StringBuilder;" } : Jvm.MethodName))).before a0 Z = true := hw _ (List.mem_of_getElem? (i := 81) rfl)
theorem w82 {Z : State} {a0 : Array Value} (hw : ∀ d ∈ tables_1, d.before a0 Z = true) : ((Jvm.Cond.instanceMethod ({ cls := "java/lang/StringBuilder", name := "append", desc := "(Ljava/lang/String;)Ljava/lang/StringBuilder;" } : Jvm.MethodName))).before a0 Z = true := hw _ (List.mem_of_getElem? (i := 82) rfl)
theorem w83 {Z : State} {a0 : Array Value} (hw : ∀ d ∈ tables_1, d.before a0 Z = true) : ((Jvm.Cond.selects "java/lang/StringBuilder" ({ cls := "java/lang/StringBuilder", name := "append", desc := "(Ljava/lang/String;)Ljava/lang/StringBuilder;" } : Jvm.MethodName) ({ cls := "java/lang/StringBuilder", name := "append", desc := "(Ljava/lang/String;)Ljava/lang/StringBuilder;" } : Jvm.MethodName))).before a0 Z = true := hw _ (List.mem_of_getElem? (i := 83) rfl)
theorem w84 {Z : State} {a0 : Array Value} (hw : ∀ d ∈ tables_1, d.before a0 Z = true) : ((Jvm.Cond.code ({ cls := "java/lang/StringBuilder", name := "append", desc := "(Ljava/lang/String;)Ljava/lang/StringBuilder;" } : Jvm.MethodName) jdk_67_method_7_code (2 : Nat) (Option.some (Jvm.ClassFile.FieldType.object "java/lang/StringBuilder")))).before a0 Z = true := hw _ (List.mem_of_getElem? (i := 84) rfl)
theorem w85 {Z : State} {a0 : Array Value} (hw : ∀ d ∈ tables_1, d.before a0 Z = true) : ((Jvm.Cond.methodLink "java/lang/StringBuilder" (29 : Nat) ({ cls := "java/lang/AbstractStringBuilder", name := "append", desc := "(Ljava/lang/String;)Ljava/lang/AbstractStringBuilder;" } : Jvm.MethodName))).before a0 Z = true := hw _ (List.mem_of_getElem? (i := 85) rfl)
theorem w86 {Z : State} {a0 : Array Value} (hw : ∀ d ∈ tables_1, d.before a0 Z = true) : ((Jvm.Cond.instanceMethod ({ cls := "java/lang/AbstractStringBuilder", name := "append", desc := "(Ljava/lang/String;)Ljava/lang/AbstractStringBuilder;" } : Jvm.MethodName))).before a0 Z = true := hw _ (List.mem_of_getElem? (i := 86) rfl)
theorem w87 {Z : State} {a0 : Array Value} (hw : ∀ d ∈ tables_1, d.before a0 Z = true) : ((Jvm.Cond.superclass "java/lang/StringBuilder" "java/lang/AbstractStringBuilder")).before a0 Z = true := hw _ (List.mem_of_getElem? (i := 87) rfl)
theorem w89 {Z : State} {a0 : Array Value} (hw : ∀ d ∈ tables_1, d.before a0 Z = true) : ((Jvm.Cond.code ({ cls := "java/lang/AbstractStringBuilder", name := "append", desc := "(Ljava/lang/String;)Ljava/lang/AbstractStringBuilder;" } : Jvm.MethodName) jdk_68_method_22_code (3 : Nat) (Option.some (Jvm.ClassFile.FieldType.object "java/lang/AbstractStringBuilder")))).before a0 Z = true := hw _ (List.mem_of_getElem? (i := 89) rfl)
theorem w90 {Z : State} {a0 : Array Value} (hw : ∀ d ∈ tables_1, d.before a0 Z = true) : ((Jvm.Cond.methodLink "java/lang/AbstractStringBuilder" (32 : Nat) ({ cls := "java/lang/String", name := "length", desc := "()I" } : Jvm.MethodName))).before a0 Z = true := hw _ (List.mem_of_getElem? (i := 90) rfl)
theorem w91 {Z : State} {a0 : Array Value} (hw : ∀ d ∈ tables_1, d.before a0 Z = true) : ((Jvm.Cond.declares ({ cls := "java/lang/String", name := "length", desc := "()I" } : Jvm.MethodName))).before a0 Z = true := hw _ (List.mem_of_getElem? (i := 91) rfl)
theorem w92 {Z : State} {a0 : Array Value} (hw : ∀ d ∈ tables_1, d.before a0 Z = true) : ((Jvm.Cond.instanceMethod ({ cls := "java/lang/String", name := "length", desc := "()I" } : Jvm.MethodName))).before a0 Z = true := hw _ (List.mem_of_getElem? (i := 92) rfl)
theorem w93 {Z : State} {a0 : Array Value} (hw : ∀ d ∈ tables_1, d.before a0 Z = true) : ((Jvm.Cond.selects "java/lang/String" ({ cls := "java/lang/String", name := "length", desc := "()I" } : Jvm.MethodName) ({ cls := "java/lang/String", name := "length", desc := "()I" } : Jvm.MethodName))).before a0 Z = true := hw _ (List.mem_of_getElem? (i := 93) rfl)
theorem w94 {Z : State} {a0 : Array Value} (hw : ∀ d ∈ tables_1, d.before a0 Z = true) : ((Jvm.Cond.code ({ cls := "java/lang/String", name := "length", desc := "()I" } : Jvm.MethodName) jdk_42_method_54_code (1 : Nat) (Option.some Jvm.ClassFile.FieldType.int))).before a0 Z = true := hw _ (List.mem_of_getElem? (i := 94) rfl)
theorem w95 {Z : State} {a0 : Array Value} (hw : ∀ d ∈ tables_1, d.before a0 Z = true) : ((Jvm.Cond.methodLink "java/lang/String" (335 : Nat) ({ cls := "java/lang/String", name := "coder", desc := "()B" } : Jvm.MethodName))).before a0 Z = true := hw _ (List.mem_of_getElem? (i := 95) rfl)
theorem w96 {Z : State} {a0 : Array Value} (hw : ∀ d ∈ tables_1, d.before a0 Z = true) : ((Jvm.Cond.declares ({ cls := "java/lang/String", name := "coder", desc := "()B" } : Jvm.MethodName))).before a0 Z = true := hw _ (List.mem_of_getElem? (i := 96) rfl)
theorem w97 {Z : State} {a0 : Array Value} (hw : ∀ d ∈ tables_1, d.before a0 Z = true) : ((Jvm.Cond.instanceMethod ({ cls := "java/lang/String", name := "coder", desc := "()B" } : Jvm.MethodName))).before a0 Z = true := hw _ (List.mem_of_getElem? (i := 97) rfl)
theorem w98 {Z : State} {a0 : Array Value} (hw : ∀ d ∈ tables_1, d.before a0 Z = true) : ((Jvm.Cond.selects "java/lang/String" ({ cls := "java/lang/String", name := "coder", desc := "()B" } : Jvm.MethodName) ({ cls := "java/lang/String", name := "coder", desc := "()B" } : Jvm.MethodName))).before a0 Z = true := hw _ (List.mem_of_getElem? (i := 98) rfl)
theorem w99 {Z : State} {a0 : Array Value} (hw : ∀ d ∈ tables_1, d.before a0 Z = true) : ((Jvm.Cond.code ({ cls := "java/lang/String", name := "coder", desc := "()B" } : Jvm.MethodName) jdk_42_method_152_code (1 : Nat) (Option.some Jvm.ClassFile.FieldType.byte))).before a0 Z = true := hw _ (List.mem_of_getElem? (i := 99) rfl)
theorem w100 {Z : State} {a0 : Array Value} (hw : ∀ d ∈ tables_1, d.before a0 Z = true) : ((Jvm.Cond.fieldLink "java/lang/AbstractStringBuilder" (79 : Nat) "java/lang/AbstractStringBuilder" "count" "I")).before a0 Z = true := hw _ (List.mem_of_getElem? (i := 100) rfl)
theorem w101 {Z : State} {a0 : Array Value} (hw : ∀ d ∈ tables_1, d.before a0 Z = true) : ((Jvm.Cond.lays "java/lang/StringBuilder" "java/lang/AbstractStringBuilder" "count" "I")).before a0 Z = true := hw _ (List.mem_of_getElem? (i := 101) rfl)
theorem w102 {Z : State} {a0 : Array Value} (hw : ∀ d ∈ tables_1, d.before a0 Z = true) : ((Jvm.Cond.methodLink "java/lang/AbstractStringBuilder" (100 : Nat) ({ cls := "java/lang/AbstractStringBuilder", name := "ensureCapacityInternal", desc := "(I)V" } : Jvm.MethodName))).before a0 Z = true := hw _ (List.mem_of_getElem? (i := 102) rfl)
theorem w103 {Z : State} {a0 : Array Value} (hw : ∀ d ∈ tables_1, d.before a0 Z = true) : ((Jvm.Cond.instanceMethod ({ cls := "java/lang/AbstractStringBuilder", name := "ensureCapacityInternal", desc := "(I)V" } : Jvm.MethodName))).before a0 Z = true := hw _ (List.mem_of_getElem? (i := 103) rfl)
theorem w104 {Z : State} {a0 : Array Value} (hw : ∀ d ∈ tables_1, d.before a0 Z = true) : ((Jvm.Cond.privateMethod ({ cls := "java/lang/AbstractStringBuilder", name := "ensureCapacityInternal", desc := "(I)V" } : Jvm.MethodName))).before a0 Z = true := hw _ (List.mem_of_getElem? (i := 104) rfl)
theorem w105 {Z : State} {a0 : Array Value} (hw : ∀ d ∈ tables_1, d.before a0 Z = true) : ((Jvm.Cond.selects "java/lang/StringBuilder" ({ cls := "java/lang/AbstractStringBuilder", name := "ensureCapacityInternal", desc := "(I)V" } : Jvm.MethodName) ({ cls := "java/lang/AbstractStringBuilder", name := "ensureCapacityInternal", desc := "(I)V" } : Jvm.MethodName))).before a0 Z = true := hw _ (List.mem_of_getElem? (i := 105) rfl)
theorem w106 {Z : State} {a0 : Array Value} (hw : ∀ d ∈ tables_1, d.before a0 Z = true) : ((Jvm.Cond.code ({ cls := "java/lang/AbstractStringBuilder", name := "ensureCapacityInternal", desc := "(I)V" } : Jvm.MethodName) jdk_68_method_9_code (3 : Nat) (Option.none : Option Jvm.ClassFile.FieldType))).before a0 Z = true := hw _ (List.mem_of_getElem? (i := 106) rfl)
theorem w107 {Z : State} {a0 : Array Value} (hw : ∀ d ∈ tables_1, d.before a0 Z = true) : ((Jvm.Cond.methodLink "java/lang/AbstractStringBuilder" (208 : Nat) ({ cls := "java/lang/AbstractStringBuilder", name := "putStringAt", desc := "(ILjava/lang/String;)V" } : Jvm.MethodName))).before a0 Z = true := hw _ (List.mem_of_getElem? (i := 107) rfl)
theorem w108 {Z : State} {a0 : Array Value} (hw : ∀ d ∈ tables_1, d.before a0 Z = true) : ((Jvm.Cond.instanceMethod ({ cls := "java/lang/AbstractStringBuilder", name := "putStringAt", desc := "(ILjava/lang/String;)V" } : Jvm.MethodName))).before a0 Z = true := hw _ (List.mem_of_getElem? (i := 108) rfl)
theorem w109 {Z : State} {a0 : Array Value} (hw : ∀ d ∈ tables_1, d.before a0 Z = true) : ((Jvm.Cond.privateMethod ({ cls := "java/lang/AbstractStringBuilder", name := "putStringAt", desc := "(ILjava/lang/String;)V" } : Jvm.MethodName))).before a0 Z = true := hw _ (List.mem_of_getElem? (i := 109) rfl)
theorem w110 {Z : State} {a0 : Array Value} (hw : ∀ d ∈ tables_1, d.before a0 Z = true) : ((Jvm.Cond.selects "java/lang/StringBuilder" ({ cls := "java/lang/AbstractStringBuilder", name := "putStringAt", desc := "(ILjava/lang/String;)V" } : Jvm.MethodName) ({ cls := "java/lang/AbstractStringBuilder", name := "putStringAt", desc := "(ILjava/lang/String;)V" } : Jvm.MethodName))).before a0 Z = true := hw _ (List.mem_of_getElem? (i := 110) rfl)
theorem w111 {Z : State} {a0 : Array Value} (hw : ∀ d ∈ tables_1, d.before a0 Z = true) : ((Jvm.Cond.code ({ cls := "java/lang/AbstractStringBuilder", name := "putStringAt", desc := "(ILjava/lang/String;)V" } : Jvm.MethodName) jdk_68_method_73_code (3 : Nat) (Option.none : Option Jvm.ClassFile.FieldType))).before a0 Z = true := hw _ (List.mem_of_getElem? (i := 111) rfl)
theorem w112 {Z : State} {a0 : Array Value} (hw : ∀ d ∈ tables_1, d.before a0 Z = true) : ((Jvm.Cond.methodLink "java/lang/AbstractStringBuilder" (397 : Nat) ({ cls := "java/lang/AbstractStringBuilder", name := "inflateIfNeededFor", desc := "(Ljava/lang/String;)V" } : Jvm.MethodName))).before a0 Z = true := hw _ (List.mem_of_getElem? (i := 112) rfl)
theorem w113 {Z : State} {a0 : Array Value} (hw : ∀ d ∈ tables_1, d.before a0 Z = true) : ((Jvm.Cond.instanceMethod ({ cls := "java/lang/AbstractStringBuilder", name := "inflateIfNeededFor", desc := "(Ljava/lang/String;)V" } : Jvm.MethodName))).before a0 Z = true := hw _ (List.mem_of_getElem? (i := 113) rfl)
theorem w114 {Z : State} {a0 : Array Value} (hw : ∀ d ∈ tables_1, d.before a0 Z = true) : ((Jvm.Cond.privateMethod ({ cls := "java/lang/AbstractStringBuilder", name := "inflateIfNeededFor", desc := "(Ljava/lang/String;)V" } : Jvm.MethodName))).before a0 Z = true := hw _ (List.mem_of_getElem? (i := 114) rfl)
theorem w115 {Z : State} {a0 : Array Value} (hw : ∀ d ∈ tables_1, d.before a0 Z = true) : ((Jvm.Cond.selects "java/lang/StringBuilder" ({ cls := "java/lang/AbstractStringBuilder", name := "inflateIfNeededFor", desc := "(Ljava/lang/String;)V" } : Jvm.MethodName) ({ cls := "java/lang/AbstractStringBuilder", name := "inflateIfNeededFor", desc := "(Ljava/lang/String;)V" } : Jvm.MethodName))).before a0 Z = true := hw _ (List.mem_of_getElem? (i := 115) rfl)
theorem w116 {Z : State} {a0 : Array Value} (hw : ∀ d ∈ tables_1, d.before a0 Z = true) : ((Jvm.Cond.code ({ cls := "java/lang/AbstractStringBuilder", name := "inflateIfNeededFor", desc := "(Ljava/lang/String;)V" } : Jvm.MethodName) jdk_68_method_71_code (2 : Nat) (Option.none : Option Jvm.ClassFile.FieldType))).before a0 Z = true := hw _ (List.mem_of_getElem? (i := 116) rfl)
theorem w117 {Z : State} {a0 : Array Value} (hw : ∀ d ∈ tables_1, d.before a0 Z = true) : ((Jvm.Cond.methodLink "java/lang/AbstractStringBuilder" (40 : Nat) ({ cls := "java/lang/String", name := "coder", desc := "()B" } : Jvm.MethodName))).before a0 Z = true := hw _ (List.mem_of_getElem? (i := 117) rfl)
theorem w118 {Z : State} {a0 : Array Value} (hw : ∀ d ∈ tables_1, d.before a0 Z = true) : ((Jvm.Cond.methodLink "java/lang/AbstractStringBuilder" (399 : Nat) ({ cls := "java/lang/String", name := "getBytes", desc := "([BIB)V" } : Jvm.MethodName))).before a0 Z = true := hw _ (List.mem_of_getElem? (i := 118) rfl)
theorem w119 {Z : State} {a0 : Array Value} (hw : ∀ d ∈ tables_1, d.before a0 Z = true) : ((Jvm.Cond.declares ({ cls := "java/lang/String", name := "getBytes", desc := "([BIB)V" } : Jvm.MethodName))).before a0 Z = true := hw _ (List.mem_of_getElem? (i := 119) rfl)
theorem w120 {Z : State} {a0 : Array Value} (hw : ∀ d ∈ tables_1, d.before a0 Z = true) : ((Jvm.Cond.instanceMethod ({ cls := "java/lang/String", name := "getBytes", desc := "([BIB)V" } : Jvm.MethodName))).before a0 Z = true := hw _ (List.mem_of_getElem? (i := 120) rfl)
theorem w121 {Z : State} {a0 : Array Value} (hw : ∀ d ∈ tables_1, d.before a0 Z = true) : ((Jvm.Cond.selects "java/lang/String" ({ cls := "java/lang/String", name := "getBytes", desc := "([BIB)V" } : Jvm.MethodName) ({ cls := "java/lang/String", name := "getBytes", desc := "([BIB)V" } : Jvm.MethodName))).before a0 Z = true := hw _ (List.mem_of_getElem? (i := 121) rfl)
theorem w122 {Z : State} {a0 : Array Value} (hw : ∀ d ∈ tables_1, d.before a0 Z = true) : ((Jvm.Cond.code ({ cls := "java/lang/String", name := "getBytes", desc := "([BIB)V" } : Jvm.MethodName) jdk_42_method_147_code (4 : Nat) (Option.none : Option Jvm.ClassFile.FieldType))).before a0 Z = true := hw _ (List.mem_of_getElem? (i := 122) rfl)
theorem w123 {Z : State} {a0 : Array Value} (hw : ∀ d ∈ tables_1, d.before a0 Z = true) : ((Jvm.Cond.methodLink "java/lang/String" (212 : Nat) ({ cls := "java/lang/System", name := "arraycopy", desc := "(Ljava/lang/Object;ILjava/lang/Object;II)V" } : Jvm.MethodName))).before a0 Z = true := hw _ (List.mem_of_getElem? (i := 123) rfl)
theorem w124 {Z : State} {a0 : Array Value} (hw : ∀ d ∈ tables_1, d.before a0 Z = true) : ((Jvm.Cond.static ({ cls := "java/lang/System", name := "arraycopy", desc := "(Ljava/lang/Object;ILjava/lang/Object;II)V" } : Jvm.MethodName))).before a0 Z = true := hw _ (List.mem_of_getElem? (i := 124) rfl)
theorem w125 {Z : State} {a0 : Array Value} (hw : ∀ d ∈ tables_1, d.before a0 Z = true) : ((Jvm.Cond.initialized "java/lang/System")).before a0 Z = true := hw _ (List.mem_of_getElem? (i := 125) rfl)
theorem w126 {Z : State} {a0 : Array Value} (hw : ∀ d ∈ tables_1, d.before a0 Z = true) : ((Jvm.Cond.native ({ cls := "java/lang/System", name := "arraycopy", desc := "(Ljava/lang/Object;ILjava/lang/Object;II)V" } : Jvm.MethodName))).before a0 Z = true := hw _ (List.mem_of_getElem? (i := 126) rfl)
theorem w127 {Z : State} {a0 : Array Value} (hw : ∀ d ∈ tables_1, d.before a0 Z = true) : ((Jvm.Cond.methodLink "com/example/countersign/countersign/Verdict" (46 : Nat) ({ cls := "java/lang/StringBuilder", name := "toString", desc := "()Ljava/lang/String;" } : Jvm.MethodName))).before a0 Z = true := hw _ (List.mem_of_getElem? (i := 127) rfl)
theorem w128 {Z : State} {a0 : Array Value} (hw : ∀ d ∈ tables_1, d.before a0 Z = true) : ((Jvm.Cond.declares ({ cls := "java/lang/StringBuilder", name := "toString", desc := "()Ljava/lang/String;" } : Jvm.MethodName))).before a0 Z = true := hw _ (List.mem_of_getElem? (i := 128) rfl)
theorem w129 {Z : State} {a0 : Array Value} (hw : ∀ d ∈ tables_1, d.before a0 Z = true) : ((Jvm.Cond.instanceMethod ({ cls := "java/lang/StringBuilder", name := "toString", desc := "()Ljava/lang/String;" } : Jvm.MethodName))).before a0 Z = true := hw _ (List.mem_of_getElem? (i := 129) rfl)
theorem w130 {Z : State} {a0 : Array Value} (hw : ∀ d ∈ tables_1, d.before a0 Z = true) : ((Jvm.Cond.selects "java/lang/StringBuilder" ({ cls := "java/lang/StringBuilder", name := "toString", desc := "()Ljava/lang/String;" } : Jvm.MethodName) ({ cls := "java/lang/StringBuilder", name := "toString", desc := "()Ljava/lang/String;" } : Jvm.MethodName))).before a0 Z = true := hw _ (List.mem_of_getElem? (i := 130) rfl)
theorem w131 {Z : State} {a0 : Array Value} (hw : ∀ d ∈ tables_1, d.before a0 Z = true) : ((Jvm.Cond.code ({ cls := "java/lang/StringBuilder", name := "toString", desc := "()Ljava/lang/String;" } : Jvm.MethodName) jdk_67_method_42_code (1 : Nat) (Option.some (Jvm.ClassFile.FieldType.object "java/lang/String")))).before a0 Z = true := hw _ (List.mem_of_getElem? (i := 131) rfl)
theorem w132 {Z : State} {a0 : Array Value} (hw : ∀ d ∈ tables_1, d.before a0 Z = true) : ((Jvm.Cond.classLink "java/lang/StringBuilder" (18 : Nat) "java/lang/String")).before a0 Z = true := hw _ (List.mem_of_getElem? (i := 132) rfl)
theorem w133 {Z : State} {a0 : Array Value} (hw : ∀ d ∈ tables_1, d.before a0 Z = true) : ((Jvm.Cond.methodLink "java/lang/StringBuilder" (137 : Nat) ({ cls := "java/lang/String", name := "<init>", desc := "(Ljava/lang/StringBuilder;)V" } : Jvm.MethodName))).before a0 Z = true := hw _ (List.mem_of_getElem? (i := 133) rfl)
theorem w134 {Z : State} {a0 : Array Value} (hw : ∀ d ∈ tables_1, d.before a0 Z = true) : ((Jvm.Cond.instanceMethod ({ cls := "java/lang/String", name := "<init>", desc := "(Ljava/lang/StringBuilder;)V" } : Jvm.MethodName))).before a0 Z = true := hw _ (List.mem_of_getElem? (i := 134) rfl)
theorem w135 {Z : State} {a0 : Array Value} (hw : ∀ d ∈ tables_1, d.before a0 Z = true) : ((Jvm.Cond.code ({ cls := "java/lang/String", name := "<init>", desc := "(Ljava/lang/StringBuilder;)V" } : Jvm.MethodName) jdk_42_method_53_code (2 : Nat) (Option.none : Option Jvm.ClassFile.FieldType))).before a0 Z = true := hw _ (List.mem_of_getElem? (i := 135) rfl)
theorem w136 {Z : State} {a0 : Array Value} (hw : ∀ d ∈ tables_1, d.before a0 Z = true) : ((Jvm.Cond.methodLink "java/lang/String" (489 : Nat) ({ cls := "java/lang/String", name := "<init>", desc := "(Ljava/lang/AbstractStringBuilder;Ljava/lang/Void;)V" } : Jvm.MethodName))).before a0 Z = true := hw _ (List.mem_of_getElem? (i := 136) rfl)
theorem w137 {Z : State} {a0 : Array Value} (hw : ∀ d ∈ tables_1, d.before a0 Z = true) : ((Jvm.Cond.instanceMethod ({ cls := "java/lang/String", name := "<init>", desc := "(Ljava/lang/AbstractStringBuilder;Ljava/lang/Void;)V" } : Jvm.MethodName))).before a0 Z = true := hw _ (List.mem_of_getElem? (i := 137) rfl)
theorem w138 {Z : State} {a0 : Array Value} (hw : ∀ d ∈ tables_1, d.before a0 Z = true) : ((Jvm.Cond.code ({ cls := "java/lang/String", name := "<init>", desc := "(Ljava/lang/AbstractStringBuilder;Ljava/lang/Void;)V" } : Jvm.MethodName) jdk_42_method_150_code (5 : Nat) (Option.none : Option Jvm.ClassFile.FieldType))).before a0 Z = true := hw _ (List.mem_of_getElem? (i := 138) rfl)
theorem w139 {Z : State} {a0 : Array Value} (hw : ∀ d ∈ tables_1, d.before a0 Z = true) : ((Jvm.Cond.methodLink "java/lang/String" (552 : Nat) ({ cls := "java/lang/AbstractStringBuilder", name := "getValue", desc := "()[B" } : Jvm.MethodName))).before a0 Z = true := hw _ (List.mem_of_getElem? (i := 139) rfl)
theorem w140 {Z : State} {a0 : Array Value} (hw : ∀ d ∈ tables_1, d.before a0 Z = true) : ((Jvm.Cond.declares ({ cls := "java/lang/AbstractStringBuilder", name := "getValue", desc := "()[B" } : Jvm.MethodName))).before a0 Z = true := hw _ (List.mem_of_getElem? (i := 140) rfl)
theorem w141 {Z : State} {a0 : Array Value} (hw : ∀ d ∈ tables_1, d.before a0 Z = true) : ((Jvm.Cond.instanceMethod ({ cls := "java/lang/AbstractStringBuilder", name := "getValue", desc := "()[B" } : Jvm.MethodName))).before a0 Z = true := hw _ (List.mem_of_getElem? (i := 141) rfl)
theorem w142 {Z : State} {a0 : Array Value} (hw : ∀ d ∈ tables_1, d.before a0 Z = true) : ((Jvm.Cond.selects "java/lang/StringBuilder" ({ cls := "java/lang/AbstractStringBuilder", name := "getValue", desc := "()[B" } : Jvm.MethodName) ({ cls := "java/lang/AbstractStringBuilder", name := "getValue", desc := "()[B" } : Jvm.MethodName))).before a0 Z = true := hw _ (List.mem_of_getElem? (i := 142) rfl)
theorem w143 {Z : State} {a0 : Array Value} (hw : ∀ d ∈ tables_1, d.before a0 Z = true) : ((Jvm.Cond.code ({ cls := "java/lang/AbstractStringBuilder", name := "getValue", desc := "()[B" } : Jvm.MethodName) jdk_68_method_64_code (1 : Nat) (Option.some (Jvm.ClassFile.FieldType.array Jvm.ClassFile.FieldType.byte)))).before a0 Z = true := hw _ (List.mem_of_getElem? (i := 143) rfl)
theorem w144 {Z : State} {a0 : Array Value} (hw : ∀ d ∈ tables_1, d.before a0 Z = true) : ((Jvm.Cond.methodLink "java/lang/String" (549 : Nat) ({ cls := "java/lang/AbstractStringBuilder", name := "length", desc := "()I" } : Jvm.MethodName))).before a0 Z = true := hw _ (List.mem_of_getElem? (i := 144) rfl)
theorem w145 {Z : State} {a0 : Array Value} (hw : ∀ d ∈ tables_1, d.before a0 Z = true) : ((Jvm.Cond.declares ({ cls := "java/lang/AbstractStringBuilder", name := "length", desc := "()I" } : Jvm.MethodName))).before a0 Z = true := hw _ (List.mem_of_getElem? (i := 145) rfl)
theorem w146 {Z : State} {a0 : Array Value} (hw : ∀ d ∈ tables_1, d.before a0 Z = true) : ((Jvm.Cond.instanceMethod ({ cls := "java/lang/AbstractStringBuilder", name := "length", desc := "()I" } : Jvm.MethodName))).before a0 Z = true := hw _ (List.mem_of_getElem? (i := 146) rfl)
theorem w147 {Z : State} {a0 : Array Value} (hw : ∀ d ∈ tables_1, d.before a0 Z = true) : ((Jvm.Cond.selects "java/lang/StringBuilder" ({ cls := "java/lang/AbstractStringBuilder", name := "length", desc := "()I" } : Jvm.MethodName) ({ cls := "java/lang/StringBuilder", name := "length", desc := "()I" } : Jvm.MethodName))).before a0 Z = true := hw _ (List.mem_of_getElem? (i := 147) rfl)
theorem w148 {Z : State} {a0 : Array Value} (hw : ∀ d ∈ tables_1, d.before a0 Z = true) : ((Jvm.Cond.instanceMethod ({ cls := "java/lang/StringBuilder", name := "length", desc := "()I" } : Jvm.MethodName))).before a0 Z = true := hw _ (List.mem_of_getElem? (i := 148) rfl)
theorem w149 {Z : State} {a0 : Array Value} (hw : ∀ d ∈ tables_1, d.before a0 Z = true) : ((Jvm.Cond.code ({ cls := "java/lang/StringBuilder", name := "length", desc := "()I" } : Jvm.MethodName) jdk_67_method_93_code (1 : Nat) (Option.some Jvm.ClassFile.FieldType.int))).before a0 Z = true := hw _ (List.mem_of_getElem? (i := 149) rfl)
theorem w150 {Z : State} {a0 : Array Value} (hw : ∀ d ∈ tables_1, d.before a0 Z = true) : ((Jvm.Cond.methodLink "java/lang/StringBuilder" (343 : Nat) ({ cls := "java/lang/AbstractStringBuilder", name := "length", desc := "()I" } : Jvm.MethodName))).before a0 Z = true := hw _ (List.mem_of_getElem? (i := 150) rfl)
theorem w151 {Z : State} {a0 : Array Value} (hw : ∀ d ∈ tables_1, d.before a0 Z = true) : ((Jvm.Cond.code ({ cls := "java/lang/AbstractStringBuilder", name := "length", desc := "()I" } : Jvm.MethodName) jdk_68_method_6_code (1 : Nat) (Option.some Jvm.ClassFile.FieldType.int))).before a0 Z = true := hw _ (List.mem_of_getElem? (i := 151) rfl)
theorem w152 {Z : State} {a0 : Array Value} (hw : ∀ d ∈ tables_1, d.before a0 Z = true) : ((Jvm.Cond.methodLink "java/lang/String" (1047 : Nat) ({ cls := "java/lang/AbstractStringBuilder", name := "isLatin1", desc := "()Z" } : Jvm.MethodName))).before a0 Z = true := hw _ (List.mem_of_getElem? (i := 152) rfl)
theorem w153 {Z : State} {a0 : Array Value} (hw : ∀ d ∈ tables_1, d.before a0 Z = true) : ((Jvm.Cond.declares ({ cls := "java/lang/AbstractStringBuilder", name := "isLatin1", desc := "()Z" } : Jvm.MethodName))).before a0 Z = true := hw _ (List.mem_of_getElem? (i := 153) rfl)
theorem w154 {Z : State} {a0 : Array Value} (hw : ∀ d ∈ tables_1, d.before a0 Z = true) : ((Jvm.Cond.instanceMethod ({ cls := "java/lang/AbstractStringBuilder", name := "isLatin1", desc := "()Z" } : Jvm.MethodName))).before a0 Z = true := hw _ (List.mem_of_getElem? (i := 154) rfl)
theorem w155 {Z : State} {a0 : Array Value} (hw : ∀ d ∈ tables_1, d.before a0 Z = true) : ((Jvm.Cond.selects "java/lang/StringBuilder" ({ cls := "java/lang/AbstractStringBuilder", name := "isLatin1", desc := "()Z" } : Jvm.MethodName) ({ cls := "java/lang/AbstractStringBuilder", name := "isLatin1", desc := "()Z" } : Jvm.MethodName))).before a0 Z = true := hw _ (List.mem_of_getElem? (i := 155) rfl)
theorem w156 {Z : State} {a0 : Array Value} (hw : ∀ d ∈ tables_1, d.before a0 Z = true) : ((Jvm.Cond.code ({ cls := "java/lang/AbstractStringBuilder", name := "isLatin1", desc := "()Z" } : Jvm.MethodName) jdk_68_method_68_code (1 : Nat) (Option.some Jvm.ClassFile.FieldType.boolean))).before a0 Z = true := hw _ (List.mem_of_getElem? (i := 156) rfl)
theorem w157 {Z : State} {a0 : Array Value} (hw : ∀ d ∈ tables_1, d.before a0 Z = true) : ((Jvm.Cond.methodLink "java/lang/String" (54 : Nat) ({ cls := "java/util/Arrays", name := "copyOfRange", desc := "([BII)[B" } : Jvm.MethodName))).before a0 Z = true := hw _ (List.mem_of_getElem? (i := 157) rfl)
theorem w158 {Z : State} {a0 : Array Value} (hw : ∀ d ∈ tables_1, d.before a0 Z = true) : ((Jvm.Cond.static ({ cls := "java/util/Arrays", name := "copyOfRange", desc := "([BII)[B" } : Jvm.MethodName))).before a0 Z = true := hw _ (List.mem_of_getElem? (i := 158) rfl)
theorem w159 {Z : State} {a0 : Array Value} (hw : ∀ d ∈ tables_1, d.before a0 Z = true) : ((Jvm.Cond.initialized "java/util/Arrays")).before a0 Z = true := hw _ (List.mem_of_getElem? (i := 159) rfl)
theorem w160 {Z : State} {a0 : Array Value} (hw : ∀ d ∈ tables_1, d.before a0 Z = true) : ((Jvm.Cond.code ({ cls := "java/util/Arrays", name := "copyOfRange", desc := "([BII)[B" } : Jvm.MethodName) jdk_65_method_132_code (3 : Nat) (Option.some (Jvm.ClassFile.FieldType.array Jvm.ClassFile.FieldType.byte)))).before a0 Z = true := hw _ (List.mem_of_getElem? (i := 160) rfl)
theorem w161 {Z : State} {a0 : Array Value} (hw : ∀ d ∈ tables_1, d.before a0 Z = true) : ((Jvm.Cond.methodLink "java/util/Arrays" (339 : Nat) ({ cls := "java/util/Arrays", name := "copyOfRangeByte", desc := "([BII)[B" } : Jvm.MethodName))).before a0 Z = true := hw _ (List.mem_of_getElem? (i := 161) rfl)
theorem w162 {Z : State} {a0 : Array Value} (hw : ∀ d ∈ tables_1, d.before a0 Z = true) : ((Jvm.Cond.static ({ cls := "java/util/Arrays", name := "copyOfRangeByte", desc := "([BII)[B" } : Jvm.MethodName))).before a0 Z = true := hw _ (List.mem_of_getElem? (i := 162) rfl)
theorem w163 {Z : State} {a0 : Array Value} (hw : ∀ d ∈ tables_1, d.before a0 Z = true) : ((Jvm.Cond.code ({ cls := "java/util/Arrays", name := "copyOfRangeByte", desc := "([BII)[B" } : Jvm.MethodName) jdk_65_method_133_code (5 : Nat) (Option.some (Jvm.ClassFile.FieldType.array Jvm.ClassFile.FieldType.byte)))).before a0 Z = true := hw _ (List.mem_of_getElem? (i := 163) rfl)
theorem w164 {Z : State} {a0 : Array Value} (hw : ∀ d ∈ tables_1, d.before a0 Z = true) : ((Jvm.Cond.methodLink "java/util/Arrays" (343 : Nat) ({ cls := "java/util/Arrays", name := "checkLength", desc := "(II)V" } : Jvm.MethodName))).before a0 Z = true := hw _ (List.mem_of_getElem? (i := 164) rfl)
theorem w165 {Z : State} {a0 : Array Value} (hw : ∀ d ∈ tables_1, d.before a0 Z = true) : ((Jvm.Cond.static ({ cls := "java/util/Arrays", name := "checkLength", desc := "(II)V" } : Jvm.MethodName))).before a0 Z = true := hw _ (List.mem_of_getElem? (i := 165) rfl)
theorem w166 {Z : State} {a0 : Array Value} (hw : ∀ d ∈ tables_1, d.before a0 Z = true) : ((Jvm.Cond.code ({ cls := "java/util/Arrays", name := "checkLength", desc := "(II)V" } : Jvm.MethodName) jdk_65_method_131_code (2 : Nat) (Option.none : Option Jvm.ClassFile.FieldType))).before a0 Z = true := hw _ (List.mem_of_getElem? (i := 166) rfl)
theorem w167 {Z : State} {a0 : Array Value} (hw : ∀ d ∈ tables_1, d.before a0 Z = true) : ((Jvm.Cond.methodLink "java/util/Arrays" (304 : Nat) ({ cls := "java/lang/Math", name := "min", desc := "(II)I" } : Jvm.MethodName))).before a0 Z = true := hw _ (List.mem_of_getElem? (i := 167) rfl)
theorem w168 {Z : State} {a0 : Array Value} (hw : ∀ d ∈ tables_1, d.before a0 Z = true) : ((Jvm.Cond.static ({ cls := "java/lang/Math", name := "min", desc := "(II)I" } : Jvm.MethodName))).before a0 Z = true := hw _ (List.mem_of_getElem? (i := 168) rfl)
theorem w169 {Z : State} {a0 : Array Value} (hw : ∀ d ∈ tables_1, d.before a0 Z = true) : ((Jvm.Cond.initialized "java/lang/Math")).before a0 Z = true := hw _ (List.mem_of_getElem? (i := 169) rfl)
theorem w170 {Z : State} {a0 : Array Value} (hw : ∀ d ∈ tables_1, d.before a0 Z = true) : ((Jvm.Cond.code ({ cls := "java/lang/Math", name := "min", desc := "(II)I" } : Jvm.MethodName) jdk_29_method_69_code (2 : Nat) (Option.some Jvm.ClassFile.FieldType.int))).before a0 Z = true := hw _ (List.mem_of_getElem? (i := 170) rfl)
theorem w171 {Z : State} {a0 : Array Value} (hw : ∀ d ∈ tables_1, d.before a0 Z = true) : ((Jvm.Cond.methodLink "java/util/Arrays" (150 : Nat) ({ cls := "java/lang/System", name := "arraycopy", desc := "(Ljava/lang/Object;ILjava/lang/Object;II)V" } : Jvm.MethodName))).before a0 Z = true := hw _ (List.mem_of_getElem? (i := 171) rfl)
theorem w172 {Z : State} {a0 : Array Value} (hw : ∀ d ∈ tables_1, d.before a0 Z = true) : ((Jvm.Cond.methodLink "com/example/countersign/countersign/VerdictInvalidPinLaw" (26 : Nat) ({ cls := "java/lang/String", name := "equals", desc := "(Ljava/lang/Object;)Z" } : Jvm.MethodName))).before a0 Z = true := hw _ (List.mem_of_getElem? (i := 172) rfl)
theorem w173 {Z : State} {a0 : Array Value} (hw : ∀ d ∈ tables_1, d.before a0 Z = true) : ((Jvm.Cond.declares ({ cls := "java/lang/String", name := "equals", desc := "(Ljava/lang/Object;)Z" } : Jvm.MethodName))).before a0 Z = true := hw _ (List.mem_of_getElem? (i := 173) rfl)
theorem w174 {Z : State} {a0 : Array Value} (hw : ∀ d ∈ tables_1, d.before a0 Z = true) : ((Jvm.Cond.instanceMethod ({ cls := "java/lang/String", name := "equals", desc := "(Ljava/lang/Object;)Z" } : Jvm.MethodName))).before a0 Z = true := hw _ (List.mem_of_getElem? (i := 174) rfl)
theorem w175 {Z : State} {a0 : Array Value} (hw : ∀ d ∈ tables_1, d.before a0 Z = true) : ((Jvm.Cond.selects "java/lang/String" ({ cls := "java/lang/String", name := "equals", desc := "(Ljava/lang/Object;)Z" } : Jvm.MethodName) ({ cls := "java/lang/String", name := "equals", desc := "(Ljava/lang/Object;)Z" } : Jvm.MethodName))).before a0 Z = true := hw _ (List.mem_of_getElem? (i := 175) rfl)
theorem w176 {Z : State} {a0 : Array Value} (hw : ∀ d ∈ tables_1, d.before a0 Z = true) : ((Jvm.Cond.code ({ cls := "java/lang/String", name := "equals", desc := "(Ljava/lang/Object;)Z" } : Jvm.MethodName) jdk_42_method_66_code (3 : Nat) (Option.some Jvm.ClassFile.FieldType.boolean))).before a0 Z = true := hw _ (List.mem_of_getElem? (i := 176) rfl)
theorem w177 {Z : State} {a0 : Array Value} (hw : ∀ d ∈ tables_1, d.before a0 Z = true) : ((Jvm.Cond.classLink "java/lang/String" (10 : Nat) "java/lang/String")).before a0 Z = true := hw _ (List.mem_of_getElem? (i := 177) rfl)
theorem w178 {Z : State} {a0 : Array Value} (hw : ∀ d ∈ tables_1, d.before a0 Z = true) : ((Jvm.Cond.methodLink "java/lang/String" (541 : Nat) ({ cls := "java/lang/StringLatin1", name := "equals", desc := "([B[B)Z" } : Jvm.MethodName))).before a0 Z = true := hw _ (List.mem_of_getElem? (i := 178) rfl)
theorem w179 {Z : State} {a0 : Array Value} (hw : ∀ d ∈ tables_1, d.before a0 Z = true) : ((Jvm.Cond.static ({ cls := "java/lang/StringLatin1", name := "equals", desc := "([B[B)Z" } : Jvm.MethodName))).before a0 Z = true := hw _ (List.mem_of_getElem? (i := 179) rfl)
theorem w180 {Z : State} {a0 : Array Value} (hw : ∀ d ∈ tables_1, d.before a0 Z = true) : ((Jvm.Cond.initialized "java/lang/StringLatin1")).before a0 Z = true := hw _ (List.mem_of_getElem? (i := 180) rfl)
theorem w181 {Z : State} {a0 : Array Value} (hw : ∀ d ∈ tables_1, d.before a0 Z = true) : ((Jvm.Cond.code ({ cls := "java/lang/StringLatin1", name := "equals", desc := "([B[B)Z" } : Jvm.MethodName) jdk_43_method_13_code (3 : Nat) (Option.some Jvm.ClassFile.FieldType.boolean))).before a0 Z = true := hw _ (List.mem_of_getElem? (i := 181) rfl)
theorem d1_0 : decode jdk_42_method_3_code 0 = .ok (.aload_n 0, 1) := by decide +kernel
theorem d1_1 : decode jdk_42_method_3_code 1 = .ok (.aload_n 1, 1) := by decide +kernel
theorem d1_2 : decode jdk_42_method_3_code 2 = .ok (.iconst 0, 1) := by decide +kernel
theorem d1_3 : decode jdk_42_method_3_code 3 = .ok (.aload_n 1, 1) := by decide +kernel
theorem d1_4 : decode jdk_42_method_3_code 4 = .ok (.arraylength, 1) := by decide +kernel
theorem d1_5 : decode jdk_42_method_3_code 5 = .ok (.aconst_null, 1) := by decide +kernel
theorem d1_6 : decode jdk_42_method_3_code 6 = .ok (.invokespecial 27, 3) := by decide +kernel
theorem d1_9 : decode jdk_42_method_3_code 9 = .ok (.return_, 1) := by decide +kernel
theorem d2_0 : decode jdk_42_method_149_code 0 = .ok (.aload_n 0, 1) := by decide +kernel
theorem d2_1 : decode jdk_42_method_149_code 1 = .ok (.invokespecial 1, 3) := by decide +kernel
theorem d2_4 : decode jdk_42_method_149_code 4 = .ok (.iload_n 3, 1) := by decide +kernel
theorem d2_5 : decode jdk_42_method_149_code 5 = .ok (.ifCond .ne 22, 3) := by decide +kernel
theorem d2_8 : decode jdk_42_method_149_code 8 = .ok (.aload_n 0, 1) := by decide +kernel
theorem d2_9 : decode jdk_42_method_149_code 9 = .ok (.ldc 7, 2) := by decide +kernel
theorem d2_11 : decode jdk_42_method_149_code 11 = .ok (.getfield 9, 3) := by decide +kernel
theorem d2_14 : decode jdk_42_method_149_code 14 = .ok (.putfield 9, 3) := by decide +kernel
theorem d2_17 : decode jdk_42_method_149_code 17 = .ok (.aload_n 0, 1) := by decide +kernel
theorem d2_18 : decode jdk_42_method_149_code 18 = .ok (.ldc 7, 2) := by decide +kernel
theorem d2_20 : decode jdk_42_method_149_code 20 = .ok (.getfield 15, 3) := by decide +kernel
theorem d2_23 : decode jdk_42_method_149_code 23 = .ok (.putfield 15, 3) := by decide +kernel
theorem d2_26 : decode jdk_42_method_149_code 26 = .ok (.return_, 1) := by decide +kernel
theorem d7_0 : decode prog_11_method_3_code 0 = .ok (.new 8, 3) := by decide +kernel
theorem d7_3 : decode prog_11_method_3_code 3 = .ok (.dup, 1) := by decide +kernel
theorem d7_4 : decode prog_11_method_3_code 4 = .ok (.aload_n 0, 1) := by decide +kernel
theorem d7_5 : decode prog_11_method_3_code 5 = .ok (.ldc 17, 2) := by decide +kernel
theorem d7_7 : decode prog_11_method_3_code 7 = .ok (.invokestatic 18, 3) := by decide +kernel
theorem d7_10 : decode prog_11_method_3_code 10 = .ok (.checkcast 24, 3) := by decide +kernel
theorem d7_13 : decode prog_11_method_3_code 13 = .ok (.invokespecial 26, 3) := by decide +kernel
theorem d7_16 : decode prog_11_method_3_code 16 = .ok (.areturn, 1) := by decide +kernel
theorem d8_0 : decode jdk_31_method_11_code 0 = .ok (.aload_n 0, 1) := by decide +kernel
theorem d8_1 : decode jdk_31_method_11_code 1 = .ok (.ifnonnull 12, 3) := by decide +kernel
theorem d8_13 : decode jdk_31_method_11_code 13 = .ok (.aload_n 0, 1) := by decide +kernel
theorem d8_14 : decode jdk_31_method_11_code 14 = .ok (.areturn, 1) := by decide +kernel
theorem d9_0 : decode prog_11_method_1_code 0 = .ok (.aload_n 0, 1) := by decide +kernel
theorem d9_1 : decode prog_11_method_1_code 1 = .ok (.invokespecial 1, 3) := by decide +kernel
theorem d9_4 : decode prog_11_method_1_code 4 = .ok (.aload_n 0, 1) := by decide +kernel
theorem d9_5 : decode prog_11_method_1_code 5 = .ok (.aload_n 1, 1) := by decide +kernel
theorem d9_6 : decode prog_11_method_1_code 6 = .ok (.putfield 7, 3) := by decide +kernel
theorem d9_9 : decode prog_11_method_1_code 9 = .ok (.return_, 1) := by decide +kernel
theorem d10_0 : decode prog_11_method_4_code 0 = .ok (.aload_n 0, 1) := by decide +kernel
theorem d10_1 : decode prog_11_method_4_code 1 = .ok (.getfield 7, 3) := by decide +kernel
theorem d10_4 : decode prog_11_method_4_code 4 = .ok (.ifnonnull 7, 3) := by decide +kernel
theorem d10_11 : decode prog_11_method_4_code 11 = .ok (.iconst 0, 1) := by decide +kernel
theorem d10_12 : decode prog_11_method_4_code 12 = .ok (.ireturn, 1) := by decide +kernel
theorem d11_0 : decode prog_11_method_6_code 0 = .ok (.aload_n 0, 1) := by decide +kernel
theorem d11_1 : decode prog_11_method_6_code 1 = .ok (.getfield 7, 3) := by decide +kernel
theorem d11_4 : decode prog_11_method_6_code 4 = .ok (.ifnonnull 8, 3) := by decide +kernel
theorem d11_12 : decode prog_11_method_6_code 12 = .ok (.new 37, 3) := by decide +kernel
theorem d11_15 : decode prog_11_method_6_code 15 = .ok (.dup, 1) := by decide +kernel
theorem d11_16 : decode prog_11_method_6_code 16 = .ok (.invokespecial 39, 3) := by decide +kernel
theorem d11_19 : decode prog_11_method_6_code 19 = .ok (.ldc 40, 2) := by decide +kernel
theorem d11_21 : decode prog_11_method_6_code 21 = .ok (.invokevirtual 42, 3) := by decide +kernel
theorem d11_24 : decode prog_11_method_6_code 24 = .ok (.aload_n 0, 1) := by decide +kernel
theorem d11_25 : decode prog_11_method_6_code 25 = .ok (.getfield 7, 3) := by decide +kernel
theorem d11_28 : decode prog_11_method_6_code 28 = .ok (.invokevirtual 42, 3) := by decide +kernel
theorem d11_31 : decode prog_11_method_6_code 31 = .ok (.invokevirtual 46, 3) := by decide +kernel
theorem d11_34 : decode prog_11_method_6_code 34 = .ok (.areturn, 1) := by decide +kernel
theorem d12_0 : decode jdk_67_method_1_code 0 = .ok (.aload_n 0, 1) := by decide +kernel
theorem d12_1 : decode jdk_67_method_1_code 1 = .ok (.bipush 16, 2) := by decide +kernel
theorem d12_3 : decode jdk_67_method_1_code 3 = .ok (.invokespecial 1, 3) := by decide +kernel
theorem d12_6 : decode jdk_67_method_1_code 6 = .ok (.return_, 1) := by decide +kernel
theorem d13_0 : decode jdk_68_method_2_code 0 = .ok (.aload_n 0, 1) := by decide +kernel
theorem d13_1 : decode jdk_68_method_2_code 1 = .ok (.invokespecial 3, 3) := by decide +kernel
theorem d13_4 : decode jdk_68_method_2_code 4 = .ok (.getstatic 18, 3) := by decide +kernel
theorem d13_7 : decode jdk_68_method_2_code 7 = .ok (.ifCond .eq 18, 3) := by decide +kernel
theorem d13_10 : decode jdk_68_method_2_code 10 = .ok (.aload_n 0, 1) := by decide +kernel
theorem d13_11 : decode jdk_68_method_2_code 11 = .ok (.iload_n 1, 1) := by decide +kernel
theorem d13_12 : decode jdk_68_method_2_code 12 = .ok (.newarray .byte, 2) := by decide +kernel
theorem d13_14 : decode jdk_68_method_2_code 14 = .ok (.putfield 15, 3) := by decide +kernel
theorem d13_17 : decode jdk_68_method_2_code 17 = .ok (.aload_n 0, 1) := by decide +kernel
theorem d13_18 : decode jdk_68_method_2_code 18 = .ok (.iconst 0, 1) := by decide +kernel
theorem d13_19 : decode jdk_68_method_2_code 19 = .ok (.putfield 22, 3) := by decide +kernel
theorem d13_22 : decode jdk_68_method_2_code 22 = .ok (.goto 16, 3) := by decide +kernel
theorem d13_38 : decode jdk_68_method_2_code 38 = .ok (.return_, 1) := by decide +kernel
theorem d14_0 : decode jdk_67_method_7_code 0 = .ok (.aload_n 0, 1) := by decide +kernel
theorem d14_1 : decode jdk_67_method_7_code 1 = .ok (.aload_n 1, 1) := by decide +kernel
theorem d14_2 : decode jdk_67_method_7_code 2 = .ok (.invokespecial 29, 3) := by decide +kernel
theorem d14_5 : decode jdk_67_method_7_code 5 = .ok (.pop, 1) := by decide +kernel
theorem d14_6 : decode jdk_67_method_7_code 6 = .ok (.aload_n 0, 1) := by decide +kernel
theorem d14_7 : decode jdk_67_method_7_code 7 = .ok (.areturn, 1) := by decide +kernel
theorem d15_0 : decode jdk_68_method_22_code 0 = .ok (.aload_n 1, 1) := by decide +kernel
theorem d15_1 : decode jdk_68_method_22_code 1 = .ok (.ifnonnull 8, 3) := by decide +kernel
theorem d15_9 : decode jdk_68_method_22_code 9 = .ok (.aload_n 1, 1) := by decide +kernel
theorem d15_10 : decode jdk_68_method_22_code 10 = .ok (.invokevirtual 32, 3) := by decide +kernel
theorem d15_13 : decode jdk_68_method_22_code 13 = .ok (.istore_n 2, 1) := by decide +kernel
theorem d15_14 : decode jdk_68_method_22_code 14 = .ok (.aload_n 0, 1) := by decide +kernel
theorem d15_15 : decode jdk_68_method_22_code 15 = .ok (.aload_n 0, 1) := by decide +kernel
theorem d15_16 : decode jdk_68_method_22_code 16 = .ok (.getfield 79, 3) := by decide +kernel
theorem d15_19 : decode jdk_68_method_22_code 19 = .ok (.iload_n 2, 1) := by decide +kernel
theorem d15_20 : decode jdk_68_method_22_code 20 = .ok (.iadd, 1) := by decide +kernel
theorem d15_21 : decode jdk_68_method_22_code 21 = .ok (.invokevirtual 100, 3) := by decide +kernel
theorem d15_24 : decode jdk_68_method_22_code 24 = .ok (.aload_n 0, 1) := by decide +kernel
theorem d15_25 : decode jdk_68_method_22_code 25 = .ok (.aload_n 0, 1) := by decide +kernel
theorem d15_26 : decode jdk_68_method_22_code 26 = .ok (.getfield 79, 3) := by decide +kernel
theorem d15_29 : decode jdk_68_method_22_code 29 = .ok (.aload_n 1, 1) := by decide +kernel
theorem d15_30 : decode jdk_68_method_22_code 30 = .ok (.invokevirtual 208, 3) := by decide +kernel
theorem d15_33 : decode jdk_68_method_22_code 33 = .ok (.aload_n 0, 1) := by decide +kernel
theorem d15_34 : decode jdk_68_method_22_code 34 = .ok (.dup, 1) := by decide +kernel
theorem d15_35 : decode jdk_68_method_22_code 35 = .ok (.getfield 79, 3) := by decide +kernel
theorem d15_38 : decode jdk_68_method_22_code 38 = .ok (.iload_n 2, 1) := by decide +kernel
theorem d15_39 : decode jdk_68_method_22_code 39 = .ok (.iadd, 1) := by decide +kernel
theorem d15_40 : decode jdk_68_method_22_code 40 = .ok (.putfield 79, 3) := by decide +kernel
theorem d15_43 : decode jdk_68_method_22_code 43 = .ok (.aload_n 0, 1) := by decide +kernel
theorem d15_44 : decode jdk_68_method_22_code 44 = .ok (.areturn, 1) := by decide +kernel
theorem d16_0 : decode jdk_42_method_54_code 0 = .ok (.aload_n 0, 1) := by decide +kernel
theorem d16_1 : decode jdk_42_method_54_code 1 = .ok (.getfield 9, 3) := by decide +kernel
theorem d16_4 : decode jdk_42_method_54_code 4 = .ok (.arraylength, 1) := by decide +kernel
theorem d16_5 : decode jdk_42_method_54_code 5 = .ok (.aload_n 0, 1) := by decide +kernel
theorem d16_6 : decode jdk_42_method_54_code 6 = .ok (.invokevirtual 335, 3) := by decide +kernel
theorem d16_9 : decode jdk_42_method_54_code 9 = .ok (.ishr, 1) := by decide +kernel
theorem d16_10 : decode jdk_42_method_54_code 10 = .ok (.ireturn, 1) := by decide +kernel
theorem d17_0 : decode jdk_42_method_152_code 0 = .ok (.getstatic 38, 3) := by decide +kernel
theorem d17_3 : decode jdk_42_method_152_code 3 = .ok (.ifCond .eq 10, 3) := by decide +kernel
theorem d17_6 : decode jdk_42_method_152_code 6 = .ok (.aload_n 0, 1) := by decide +kernel
theorem d17_7 : decode jdk_42_method_152_code 7 = .ok (.getfield 15, 3) := by decide +kernel
theorem d17_10 : decode jdk_42_method_152_code 10 = .ok (.goto 4, 3) := by decide +kernel
theorem d17_14 : decode jdk_42_method_152_code 14 = .ok (.ireturn, 1) := by decide +kernel
theorem d18_0 : decode jdk_68_method_9_code 0 = .ok (.aload_n 0, 1) := by decide +kernel
theorem d18_1 : decode jdk_68_method_9_code 1 = .ok (.getfield 15, 3) := by decide +kernel
theorem d18_4 : decode jdk_68_method_9_code 4 = .ok (.arraylength, 1) := by decide +kernel
theorem d18_5 : decode jdk_68_method_9_code 5 = .ok (.aload_n 0, 1) := by decide +kernel
theorem d18_6 : decode jdk_68_method_9_code 6 = .ok (.getfield 22, 3) := by decide +kernel
theorem d18_9 : decode jdk_68_method_9_code 9 = .ok (.ishr, 1) := by decide +kernel
theorem d18_10 : decode jdk_68_method_9_code 10 = .ok (.istore_n 2, 1) := by decide +kernel
theorem d18_11 : decode jdk_68_method_9_code 11 = .ok (.iload_n 1, 1) := by decide +kernel
theorem d18_12 : decode jdk_68_method_9_code 12 = .ok (.iload_n 2, 1) := by decide +kernel
theorem d18_13 : decode jdk_68_method_9_code 13 = .ok (.isub, 1) := by decide +kernel
theorem d18_14 : decode jdk_68_method_9_code 14 = .ok (.ifCond .le 24, 3) := by decide +kernel
theorem d18_38 : decode jdk_68_method_9_code 38 = .ok (.return_, 1) := by decide +kernel
theorem d19_0 : decode jdk_68_method_73_code 0 = .ok (.aload_n 0, 1) := by decide +kernel
theorem d19_1 : decode jdk_68_method_73_code 1 = .ok (.aload_n 2, 1) := by decide +kernel
theorem d19_2 : decode jdk_68_method_73_code 2 = .ok (.invokevirtual 397, 3) := by decide +kernel
theorem d19_5 : decode jdk_68_method_73_code 5 = .ok (.aload_n 2, 1) := by decide +kernel
theorem d19_6 : decode jdk_68_method_73_code 6 = .ok (.aload_n 0, 1) := by decide +kernel
theorem d19_7 : decode jdk_68_method_73_code 7 = .ok (.getfield 15, 3) := by decide +kernel
theorem d19_10 : decode jdk_68_method_73_code 10 = .ok (.iload_n 1, 1) := by decide +kernel
theorem d19_11 : decode jdk_68_method_73_code 11 = .ok (.aload_n 0, 1) := by decide +kernel
theorem d19_12 : decode jdk_68_method_73_code 12 = .ok (.getfield 22, 3) := by decide +kernel
theorem d19_15 : decode jdk_68_method_73_code 15 = .ok (.invokevirtual 399, 3) := by decide +kernel
theorem d19_18 : decode jdk_68_method_73_code 18 = .ok (.return_, 1) := by decide +kernel
theorem d20_0 : decode jdk_68_method_71_code 0 = .ok (.getstatic 18, 3) := by decide +kernel
theorem d20_3 : decode jdk_68_method_71_code 3 = .ok (.ifCond .eq 18, 3) := by decide +kernel
theorem d20_6 : decode jdk_68_method_71_code 6 = .ok (.aload_n 0, 1) := by decide +kernel
theorem d20_7 : decode jdk_68_method_71_code 7 = .ok (.getfield 22, 3) := by decide +kernel
theorem d20_10 : decode jdk_68_method_71_code 10 = .ok (.aload_n 1, 1) := by decide +kernel
theorem d20_11 : decode jdk_68_method_71_code 11 = .ok (.invokevirtual 40, 3) := by decide +kernel
theorem d20_14 : decode jdk_68_method_71_code 14 = .ok (.if_icmp .eq 7, 3) := by decide +kernel
theorem d20_21 : decode jdk_68_method_71_code 21 = .ok (.return_, 1) := by decide +kernel
theorem d21_0 : decode jdk_42_method_147_code 0 = .ok (.aload_n 0, 1) := by decide +kernel
theorem d21_1 : decode jdk_42_method_147_code 1 = .ok (.invokevirtual 335, 3) := by decide +kernel
theorem d21_4 : decode jdk_42_method_147_code 4 = .ok (.iload_n 3, 1) := by decide +kernel
theorem d21_5 : decode jdk_42_method_147_code 5 = .ok (.if_icmp .ne 23, 3) := by decide +kernel
theorem d21_8 : decode jdk_42_method_147_code 8 = .ok (.aload_n 0, 1) := by decide +kernel
theorem d21_9 : decode jdk_42_method_147_code 9 = .ok (.getfield 9, 3) := by decide +kernel
theorem d21_12 : decode jdk_42_method_147_code 12 = .ok (.iconst 0, 1) := by decide +kernel
theorem d21_13 : decode jdk_42_method_147_code 13 = .ok (.aload_n 1, 1) := by decide +kernel
theorem d21_14 : decode jdk_42_method_147_code 14 = .ok (.iload_n 2, 1) := by decide +kernel
theorem d21_15 : decode jdk_42_method_147_code 15 = .ok (.iload_n 3, 1) := by decide +kernel
theorem d21_16 : decode jdk_42_method_147_code 16 = .ok (.ishl, 1) := by decide +kernel
theorem d21_17 : decode jdk_42_method_147_code 17 = .ok (.aload_n 0, 1) := by decide +kernel
theorem d21_18 : decode jdk_42_method_147_code 18 = .ok (.getfield 9, 3) := by decide +kernel
theorem d21_21 : decode jdk_42_method_147_code 21 = .ok (.arraylength, 1) := by decide +kernel
theorem d21_22 : decode jdk_42_method_147_code 22 = .ok (.invokestatic 212, 3) := by decide +kernel
theorem d21_25 : decode jdk_42_method_147_code 25 = .ok (.goto 18, 3) := by decide +kernel
theorem d21_43 : decode jdk_42_method_147_code 43 = .ok (.return_, 1) := by decide +kernel
theorem d22_0 : decode jdk_67_method_42_code 0 = .ok (.new 18, 3) := by decide +kernel
theorem d22_3 : decode jdk_67_method_42_code 3 = .ok (.dup, 1) := by decide +kernel
theorem d22_4 : decode jdk_67_method_42_code 4 = .ok (.aload_n 0, 1) := by decide +kernel
theorem d22_5 : decode jdk_67_method_42_code 5 = .ok (.invokespecial 137, 3) := by decide +kernel
theorem d22_8 : decode jdk_67_method_42_code 8 = .ok (.areturn, 1) := by decide +kernel
theorem d23_0 : decode jdk_42_method_53_code 0 = .ok (.aload_n 0, 1) := by decide +kernel
theorem d23_1 : decode jdk_42_method_53_code 1 = .ok (.aload_n 1, 1) := by decide +kernel
theorem d23_2 : decode jdk_42_method_53_code 2 = .ok (.aconst_null, 1) := by decide +kernel
theorem d23_3 : decode jdk_42_method_53_code 3 = .ok (.invokespecial 489, 3) := by decide +kernel
theorem d23_6 : decode jdk_42_method_53_code 6 = .ok (.return_, 1) := by decide +kernel
theorem d24_0 : decode jdk_42_method_150_code 0 = .ok (.aload_n 0, 1) := by decide +kernel
theorem d24_1 : decode jdk_42_method_150_code 1 = .ok (.invokespecial 1, 3) := by decide +kernel
theorem d24_4 : decode jdk_42_method_150_code 4 = .ok (.aload_n 1, 1) := by decide +kernel
theorem d24_5 : decode jdk_42_method_150_code 5 = .ok (.invokevirtual 552, 3) := by decide +kernel
theorem d24_8 : decode jdk_42_method_150_code 8 = .ok (.astore_n 3, 1) := by decide +kernel
theorem d24_9 : decode jdk_42_method_150_code 9 = .ok (.aload_n 1, 1) := by decide +kernel
theorem d24_10 : decode jdk_42_method_150_code 10 = .ok (.invokevirtual 549, 3) := by decide +kernel
theorem d24_13 : decode jdk_42_method_150_code 13 = .ok (.istore 4, 2) := by decide +kernel
theorem d24_15 : decode jdk_42_method_150_code 15 = .ok (.aload_n 1, 1) := by decide +kernel
theorem d24_16 : decode jdk_42_method_150_code 16 = .ok (.invokevirtual 1047, 3) := by decide +kernel
theorem d24_19 : decode jdk_42_method_150_code 19 = .ok (.ifCond .eq 22, 3) := by decide +kernel
theorem d24_22 : decode jdk_42_method_150_code 22 = .ok (.aload_n 0, 1) := by decide +kernel
theorem d24_23 : decode jdk_42_method_150_code 23 = .ok (.iconst 0, 1) := by decide +kernel
theorem d24_24 : decode jdk_42_method_150_code 24 = .ok (.putfield 15, 3) := by decide +kernel
theorem d24_27 : decode jdk_42_method_150_code 27 = .ok (.aload_n 0, 1) := by decide +kernel
theorem d24_28 : decode jdk_42_method_150_code 28 = .ok (.aload_n 3, 1) := by decide +kernel
theorem d24_29 : decode jdk_42_method_150_code 29 = .ok (.iconst 0, 1) := by decide +kernel
theorem d24_30 : decode jdk_42_method_150_code 30 = .ok (.iload 4, 2) := by decide +kernel
theorem d24_32 : decode jdk_42_method_150_code 32 = .ok (.invokestatic 54, 3) := by decide +kernel
theorem d24_35 : decode jdk_42_method_150_code 35 = .ok (.putfield 9, 3) := by decide +kernel
theorem d24_38 : decode jdk_42_method_150_code 38 = .ok (.goto 59, 3) := by decide +kernel
theorem d24_97 : decode jdk_42_method_150_code 97 = .ok (.return_, 1) := by decide +kernel
theorem d25_0 : decode jdk_68_method_64_code 0 = .ok (.aload_n 0, 1) := by decide +kernel
theorem d25_1 : decode jdk_68_method_64_code 1 = .ok (.getfield 15, 3) := by decide +kernel
theorem d25_4 : decode jdk_68_method_64_code 4 = .ok (.areturn, 1) := by decide +kernel
theorem d26_0 : decode jdk_67_method_93_code 0 = .ok (.aload_n 0, 1) := by decide +kernel
theorem d26_1 : decode jdk_67_method_93_code 1 = .ok (.invokespecial 343, 3) := by decide +kernel
theorem d26_4 : decode jdk_67_method_93_code 4 = .ok (.ireturn, 1) := by decide +kernel
theorem d27_0 : decode jdk_68_method_6_code 0 = .ok (.aload_n 0, 1) := by decide +kernel
theorem d27_1 : decode jdk_68_method_6_code 1 = .ok (.getfield 79, 3) := by decide +kernel
theorem d27_4 : decode jdk_68_method_6_code 4 = .ok (.ireturn, 1) := by decide +kernel
theorem d28_0 : decode jdk_68_method_68_code 0 = .ok (.getstatic 18, 3) := by decide +kernel
theorem d28_3 : decode jdk_68_method_68_code 3 = .ok (.ifCond .eq 14, 3) := by decide +kernel
theorem d28_6 : decode jdk_68_method_68_code 6 = .ok (.aload_n 0, 1) := by decide +kernel
theorem d28_7 : decode jdk_68_method_68_code 7 = .ok (.getfield 22, 3) := by decide +kernel
theorem d28_10 : decode jdk_68_method_68_code 10 = .ok (.ifCond .ne 7, 3) := by decide +kernel
theorem d28_13 : decode jdk_68_method_68_code 13 = .ok (.iconst 1, 1) := by decide +kernel
theorem d28_14 : decode jdk_68_method_68_code 14 = .ok (.goto 4, 3) := by decide +kernel
theorem d28_18 : decode jdk_68_method_68_code 18 = .ok (.ireturn, 1) := by decide +kernel
theorem d29_0 : decode jdk_65_method_132_code 0 = .ok (.iload_n 1, 1) := by decide +kernel
theorem d29_1 : decode jdk_65_method_132_code 1 = .ok (.ifCond .ne 9, 3) := by decide +kernel
theorem d29_4 : decode jdk_65_method_132_code 4 = .ok (.iload_n 2, 1) := by decide +kernel
theorem d29_5 : decode jdk_65_method_132_code 5 = .ok (.aload_n 0, 1) := by decide +kernel
theorem d29_6 : decode jdk_65_method_132_code 6 = .ok (.arraylength, 1) := by decide +kernel
theorem d29_7 : decode jdk_65_method_132_code 7 = .ok (.if_icmp .eq 10, 3) := by decide +kernel
theorem d29_10 : decode jdk_65_method_132_code 10 = .ok (.aload_n 0, 1) := by decide +kernel
theorem d29_11 : decode jdk_65_method_132_code 11 = .ok (.iload_n 1, 1) := by decide +kernel
theorem d29_12 : decode jdk_65_method_132_code 12 = .ok (.iload_n 2, 1) := by decide +kernel
theorem d29_13 : decode jdk_65_method_132_code 13 = .ok (.invokestatic 339, 3) := by decide +kernel
theorem d29_16 : decode jdk_65_method_132_code 16 = .ok (.areturn, 1) := by decide +kernel
theorem d30_0 : decode jdk_65_method_133_code 0 = .ok (.iload_n 1, 1) := by decide +kernel
theorem d30_1 : decode jdk_65_method_133_code 1 = .ok (.iload_n 2, 1) := by decide +kernel
theorem d30_2 : decode jdk_65_method_133_code 2 = .ok (.invokestatic 343, 3) := by decide +kernel
theorem d30_5 : decode jdk_65_method_133_code 5 = .ok (.iload_n 2, 1) := by decide +kernel
theorem d30_6 : decode jdk_65_method_133_code 6 = .ok (.iload_n 1, 1) := by decide +kernel
theorem d30_7 : decode jdk_65_method_133_code 7 = .ok (.isub, 1) := by decide +kernel
theorem d30_8 : decode jdk_65_method_133_code 8 = .ok (.istore_n 3, 1) := by decide +kernel
theorem d30_9 : decode jdk_65_method_133_code 9 = .ok (.iload_n 3, 1) := by decide +kernel
theorem d30_10 : decode jdk_65_method_133_code 10 = .ok (.newarray .byte, 2) := by decide +kernel
theorem d30_12 : decode jdk_65_method_133_code 12 = .ok (.astore 4, 2) := by decide +kernel
theorem d30_14 : decode jdk_65_method_133_code 14 = .ok (.aload_n 0, 1) := by decide +kernel
theorem d30_15 : decode jdk_65_method_133_code 15 = .ok (.iload_n 1, 1) := by decide +kernel
theorem d30_16 : decode jdk_65_method_133_code 16 = .ok (.aload 4, 2) := by decide +kernel
theorem d30_18 : decode jdk_65_method_133_code 18 = .ok (.iconst 0, 1) := by decide +kernel
theorem d30_19 : decode jdk_65_method_133_code 19 = .ok (.aload_n 0, 1) := by decide +kernel
theorem d30_20 : decode jdk_65_method_133_code 20 = .ok (.arraylength, 1) := by decide +kernel
theorem d30_21 : decode jdk_65_method_133_code 21 = .ok (.iload_n 1, 1) := by decide +kernel
theorem d30_22 : decode jdk_65_method_133_code 22 = .ok (.isub, 1) := by decide +kernel
theorem d30_23 : decode jdk_65_method_133_code 23 = .ok (.iload_n 3, 1) := by decide +kernel
theorem d30_24 : decode jdk_65_method_133_code 24 = .ok (.invokestatic 304, 3) := by decide +kernel
theorem d30_27 : decode jdk_65_method_133_code 27 = .ok (.invokestatic 150, 3) := by decide +kernel
theorem d30_30 : decode jdk_65_method_133_code 30 = .ok (.aload 4, 2) := by decide +kernel
theorem d30_32 : decode jdk_65_method_133_code 32 = .ok (.areturn, 1) := by decide +kernel
theorem d31_0 : decode jdk_65_method_131_code 0 = .ok (.iload_n 1, 1) := by decide +kernel
theorem d31_1 : decode jdk_65_method_131_code 1 = .ok (.iload_n 0, 1) := by decide +kernel
theorem d31_2 : decode jdk_65_method_131_code 2 = .ok (.if_icmp .ge 35, 3) := by decide +kernel
theorem d31_37 : decode jdk_65_method_131_code 37 = .ok (.return_, 1) := by decide +kernel
theorem d32_0 : decode jdk_29_method_69_code 0 = .ok (.iload_n 0, 1) := by decide +kernel
theorem d32_1 : decode jdk_29_method_69_code 1 = .ok (.iload_n 1, 1) := by decide +kernel
theorem d32_2 : decode jdk_29_method_69_code 2 = .ok (.if_icmp .gt 7, 3) := by decide +kernel
theorem d32_9 : decode jdk_29_method_69_code 9 = .ok (.iload_n 1, 1) := by decide +kernel
theorem d32_10 : decode jdk_29_method_69_code 10 = .ok (.ireturn, 1) := by decide +kernel
theorem d33_0 : decode jdk_42_method_66_code 0 = .ok (.aload_n 0, 1) := by decide +kernel
theorem d33_1 : decode jdk_42_method_66_code 1 = .ok (.aload_n 1, 1) := by decide +kernel
theorem d33_2 : decode jdk_42_method_66_code 2 = .ok (.if_acmp .ne 5, 3) := by decide +kernel
theorem d33_7 : decode jdk_42_method_66_code 7 = .ok (.aload_n 1, 1) := by decide +kernel
theorem d33_8 : decode jdk_42_method_66_code 8 = .ok (.instanceof 10, 3) := by decide +kernel
theorem d33_11 : decode jdk_42_method_66_code 11 = .ok (.ifCond .eq 43, 3) := by decide +kernel
theorem d33_14 : decode jdk_42_method_66_code 14 = .ok (.aload_n 1, 1) := by decide +kernel
theorem d33_15 : decode jdk_42_method_66_code 15 = .ok (.checkcast 10, 3) := by decide +kernel
theorem d33_18 : decode jdk_42_method_66_code 18 = .ok (.astore_n 2, 1) := by decide +kernel
theorem d33_19 : decode jdk_42_method_66_code 19 = .ok (.getstatic 38, 3) := by decide +kernel
theorem d33_22 : decode jdk_42_method_66_code 22 = .ok (.ifCond .eq 14, 3) := by decide +kernel
theorem d33_25 : decode jdk_42_method_66_code 25 = .ok (.aload_n 0, 1) := by decide +kernel
theorem d33_26 : decode jdk_42_method_66_code 26 = .ok (.getfield 15, 3) := by decide +kernel
theorem d33_29 : decode jdk_42_method_66_code 29 = .ok (.aload_n 2, 1) := by decide +kernel
theorem d33_30 : decode jdk_42_method_66_code 30 = .ok (.getfield 15, 3) := by decide +kernel
theorem d33_33 : decode jdk_42_method_66_code 33 = .ok (.if_icmp .ne 21, 3) := by decide +kernel
theorem d33_36 : decode jdk_42_method_66_code 36 = .ok (.aload_n 0, 1) := by decide +kernel
theorem d33_37 : decode jdk_42_method_66_code 37 = .ok (.getfield 9, 3) := by decide +kernel
theorem d33_40 : decode jdk_42_method_66_code 40 = .ok (.aload_n 2, 1) := by decide +kernel
theorem d33_41 : decode jdk_42_method_66_code 41 = .ok (.getfield 9, 3) := by decide +kernel
theorem d33_44 : decode jdk_42_method_66_code 44 = .ok (.invokestatic 541, 3) := by decide +kernel
theorem d33_47 : decode jdk_42_method_66_code 47 = .ok (.ifCond .eq 7, 3) := by decide +kernel
theorem d33_50 : decode jdk_42_method_66_code 50 = .ok (.iconst 1, 1) := by decide +kernel
theorem d33_51 : decode jdk_42_method_66_code 51 = .ok (.goto 4, 3) := by decide +kernel
theorem d33_55 : decode jdk_42_method_66_code 55 = .ok (.ireturn, 1) := by decide +kernel
theorem d34_0 : decode jdk_43_method_13_code 0 = .ok (.aload_n 0, 1) := by decide +kernel
theorem d34_1 : decode jdk_43_method_13_code 1 = .ok (.arraylength, 1) := by decide +kernel
theorem d34_2 : decode jdk_43_method_13_code 2 = .ok (.aload_n 1, 1) := by decide +kernel
theorem d34_3 : decode jdk_43_method_13_code 3 = .ok (.arraylength, 1) := by decide +kernel
theorem d34_4 : decode jdk_43_method_13_code 4 = .ok (.if_icmp .ne 30, 3) := by decide +kernel
theorem d34_7 : decode jdk_43_method_13_code 7 = .ok (.iconst 0, 1) := by decide +kernel
theorem d34_8 : decode jdk_43_method_13_code 8 = .ok (.istore_n 2, 1) := by decide +kernel
theorem d34_9 : decode jdk_43_method_13_code 9 = .ok (.iload_n 2, 1) := by decide +kernel
theorem d34_10 : decode jdk_43_method_13_code 10 = .ok (.aload_n 0, 1) := by decide +kernel
theorem d34_11 : decode jdk_43_method_13_code 11 = .ok (.arraylength, 1) := by decide +kernel
theorem d34_12 : decode jdk_43_method_13_code 12 = .ok (.if_icmp .ge 20, 3) := by decide +kernel
theorem d34_15 : decode jdk_43_method_13_code 15 = .ok (.aload_n 0, 1) := by decide +kernel
theorem d34_16 : decode jdk_43_method_13_code 16 = .ok (.iload_n 2, 1) := by decide +kernel
theorem d34_17 : decode jdk_43_method_13_code 17 = .ok (.baload, 1) := by decide +kernel
theorem d34_18 : decode jdk_43_method_13_code 18 = .ok (.aload_n 1, 1) := by decide +kernel
theorem d34_19 : decode jdk_43_method_13_code 19 = .ok (.iload_n 2, 1) := by decide +kernel
theorem d34_20 : decode jdk_43_method_13_code 20 = .ok (.baload, 1) := by decide +kernel
theorem d34_21 : decode jdk_43_method_13_code 21 = .ok (.if_icmp .eq 5, 3) := by decide +kernel
theorem d34_26 : decode jdk_43_method_13_code 26 = .ok (.iinc 2 1, 3) := by decide +kernel
theorem d34_29 : decode jdk_43_method_13_code 29 = .ok (.goto (-20), 3) := by decide +kernel
theorem d34_32 : decode jdk_43_method_13_code 32 = .ok (.iconst 1, 1) := by decide +kernel
theorem d34_33 : decode jdk_43_method_13_code 33 = .ok (.ireturn, 1) := by decide +kernel
theorem pd0 : parseMethodDescriptor "([C)V" = some ⟨[(.array .char)], none⟩ := by decide +kernel
theorem pd1 : parseMethodDescriptor "(Ljava/lang/Object;Ljava/lang/String;)Ljava/lang/Object;" = some ⟨[(.object "java/lang/Object"), (.object "java/lang/String")], some (.object "java/lang/Object")⟩ := by decide +kernel
theorem pd2 : parseMethodDescriptor "(Ljava/lang/String;)V" = some ⟨[(.object "java/lang/String")], none⟩ := by decide +kernel
theorem pd3 : parseMethodDescriptor "(Ljava/lang/String;)Lcom/example/countersign/countersign/Verdict;" = some ⟨[(.object "java/lang/String")], some (.object "com/example/countersign/countersign/Verdict")⟩ := by decide +kernel
theorem pd4 : parseMethodDescriptor "()Z" = some ⟨[], some .boolean⟩ := by decide +kernel
theorem pd5 : parseMethodDescriptor "(I)V" = some ⟨[.int], none⟩ := by decide +kernel
theorem pd6 : parseMethodDescriptor "()V" = some ⟨[], none⟩ := by decide +kernel
theorem pd7 : parseMethodDescriptor "()B" = some ⟨[], some .byte⟩ := by decide +kernel
theorem pd8 : parseMethodDescriptor "()I" = some ⟨[], some .int⟩ := by decide +kernel
theorem pd9 : parseMethodDescriptor "([BIB)V" = some ⟨[(.array .byte), .int, .byte], none⟩ := by decide +kernel
theorem pd10 : parseMethodDescriptor "(ILjava/lang/String;)V" = some ⟨[.int, (.object "java/lang/String")], none⟩ := by decide +kernel
theorem pd11 : parseMethodDescriptor "(Ljava/lang/String;)Ljava/lang/AbstractStringBuilder;" = some ⟨[(.object "java/lang/String")], some (.object "java/lang/AbstractStringBuilder")⟩ := by decide +kernel
theorem pd12 : parseMethodDescriptor "(Ljava/lang/String;)Ljava/lang/StringBuilder;" = some ⟨[(.object "java/lang/String")], some (.object "java/lang/StringBuilder")⟩ := by decide +kernel
theorem pd13 : parseMethodDescriptor "()[B" = some ⟨[], some (.array .byte)⟩ := by decide +kernel
theorem pd14 : parseMethodDescriptor "(II)V" = some ⟨[.int, .int], none⟩ := by decide +kernel
theorem pd15 : parseMethodDescriptor "(II)I" = some ⟨[.int, .int], some .int⟩ := by decide +kernel
theorem pd16 : parseMethodDescriptor "([BII)[B" = some ⟨[(.array .byte), .int, .int], some (.array .byte)⟩ := by decide +kernel
theorem pd17 : parseMethodDescriptor "(Ljava/lang/AbstractStringBuilder;Ljava/lang/Void;)V" = some ⟨[(.object "java/lang/AbstractStringBuilder"), (.object "java/lang/Void")], none⟩ := by decide +kernel
theorem pd18 : parseMethodDescriptor "(Ljava/lang/StringBuilder;)V" = some ⟨[(.object "java/lang/StringBuilder")], none⟩ := by decide +kernel
theorem pd19 : parseMethodDescriptor "()Ljava/lang/String;" = some ⟨[], some (.object "java/lang/String")⟩ := by decide +kernel
theorem pd20 : parseMethodDescriptor "([B[B)Z" = some ⟨[(.array .byte), (.array .byte)], some .boolean⟩ := by decide +kernel
theorem pd21 : parseMethodDescriptor "(Ljava/lang/Object;)Z" = some ⟨[(.object "java/lang/Object")], some .boolean⟩ := by decide +kernel
theorem pd22 : parseMethodDescriptor "([CIILjava/lang/Void;)V" = some ⟨[(.array .char), .int, .int, (.object "java/lang/Void")], none⟩ := by decide +kernel
theorem pn0 : plainName "java/util/Objects" = true := by first | (simp [plainName, overriddenIn]; done) | decide +kernel
theorem pn1 : plainName "com/example/countersign/countersign/Verdict" = true := by first | (simp [plainName, overriddenIn]; done) | decide +kernel
theorem pn2 : plainName "java/lang/AbstractStringBuilder" = true := by first | (simp [plainName, overriddenIn]; done) | decide +kernel
theorem pn3 : plainName "java/lang/StringBuilder" = true := by first | (simp [plainName, overriddenIn]; done) | decide +kernel
theorem pn4 : plainName "java/lang/String" = true := by first | (simp [plainName, overriddenIn]; done) | decide +kernel
theorem pn5 : plainName "java/util/Arrays" = true := by first | (simp [plainName, overriddenIn]; done) | decide +kernel
theorem pn6 : plainName "java/lang/StringLatin1" = true := by first | (simp [plainName, overriddenIn]; done) | decide +kernel
theorem pn7 : plainName "com/example/countersign/countersign/VerdictInvalidPinLaw" = true := by first | (simp [plainName, overriddenIn]; done) | decide +kernel
theorem rm1 (l : Launch) (Z : State) (a0 : Array Value) (hw : ∀ d ∈ tables_1, d.before a0 Z = true) (a1 a2 : Addr) (h0 : Heap) (O0 : Old Z Z.heap.size h0) :
    CtrN l Z (⟨"java/util/Objects", "requireNonNull", "(Ljava/lang/Object;Ljava/lang/String;)Ljava/lang/Object;"⟩ : MethodName) jdk_31_method_11_code 2 (some (.object "java/lang/Object")) [] (⟨0, 0, 0, 0⟩ : Room) #[(.ref a1), (.ref a2)] h0 [] (fun v h => v = some (.ref a1)) := by
  refine CtrN.intro (L0 := #[.val (.ref a1), .val (.ref a2)]) (plainFor_of_name pn0) O0 (own_entry rfl) ?_
  intro p e s m below meth c T0 hy hml hret hlk hnm W0
  refine o_aloadN W0 (pc' := 1) (hb hy d8_0) rfl rfl rfl ?_
  refine o_ifnonnullY W0 (pc' := 13) (hb hy d8_1) (by decide) rfl ?_
  refine o_aloadN W0 (pc' := 14) (hb hy d8_13) rfl rfl rfl ?_
  exact o_retA W0 hlk (v := (.ref a1)) hret rfl rfl (hb hy d8_14) (by decide) (by decide) rfl
theorem rm2 (l : Launch) (Z : State) (a0 : Array Value) (hw : ∀ d ∈ tables_1, d.before a0 Z = true) (a1 a2 : Addr) (h0 : Heap) (O0 : Old Z Z.heap.size h0) (E_a1 : Exa Z h0 a1 "com/example/countersign/countersign/Verdict") (F_a1_reason : Fld Z h0 a1 "com/example/countersign/countersign/Verdict" "reason" "Ljava/lang/String;" .null) (g_a1 : Z.heap.size ≤ a1) :
    CtrN l Z (⟨"com/example/countersign/countersign/Verdict", "<init>", "(Ljava/lang/String;)V"⟩ : MethodName) prog_11_method_1_code 2 none [] (⟨1, 0, 0, 12⟩ : Room) #[(.ref a1), (.ref a2)] h0 [a1] (fun v h => Fld Z h a1 "com/example/countersign/countersign/Verdict" "reason" "Ljava/lang/String;" (.ref a2) ∧ v = none) := by
  refine CtrN.intro (L0 := #[.val (.ref a1), .val (.ref a2)]) (plainFor_of_name pn1) O0 (own_entry rfl) ?_
  intro p e s m below meth c T0 hy hml hret hlk hnm W0
  refine o_aloadN W0 (pc' := 1) (hb hy d9_0) rfl rfl rfl ?_
  refine o_initO W0 (w48 hw) (w12 hw) (w13 hw) (by rw [hml]; rfl) (pc' := 4) (hb hy d9_1) rfl (by decide) 0 (by exact Nat.le_of_eq rfl) (by decide) ?_
  intro T1 W1
  refine o_aloadN W1 (pc' := 5) (hb hy d9_4) rfl rfl rfl ?_
  refine o_aloadN W1 (pc' := 6) (hb hy d9_5) rfl rfl rfl ?_
  refine o_putF W1 (w49 hw) Via.refl F_a1_reason E_a1 (Or.inr ⟨(w50 hw), rfl, hnm⟩) (w38 hw) (ty := (.object "java/lang/String")) (v' := (.ref a2)) (by decide) rfl rfl g_a1 (Or.inl (List.mem_of_getElem? (i := 0) rfl)) (fun _ _ => trivial) (pc' := 9) (hb hy d9_6) rfl ?_
  intro T2 h2 lo2 W2 R2
  have F2 := F_a1_reason.same R2
  have c3 := (E_a1.wr R2)
  exact o_ret0 W2 hlk hret (hb hy d9_9) (by decide) (by decide) ⟨F2, rfl⟩
theorem rm3 (l : Launch) (Z : State) (a0 : Array Value) (hw : ∀ d ∈ tables_1, d.before a0 Z = true) (a1 : Addr) (h0 : Heap) (O0 : Old Z Z.heap.size h0) (E_a1 : Exa Z h0 a1 "java/lang/String") :
    CtrW l Z consts_1 (⟨"com/example/countersign/countersign/Verdict", "invalid", "(Ljava/lang/String;)Lcom/example/countersign/countersign/Verdict;"⟩ : MethodName) prog_11_method_3_code 1 (some (.object "com/example/countersign/countersign/Verdict")) [] (⟨2, 3, 29, 26⟩ : Room) #[(.ref a1)] h0 [] (fun v h => ∃ r1 : Addr, h0.size ≤ r1 ∧ Exa Z h r1 "com/example/countersign/countersign/Verdict" ∧ Fld Z h r1 "com/example/countersign/countersign/Verdict" "reason" "Ljava/lang/String;" (.ref a1) ∧ v = some (.ref r1)) := by
  refine CtrW.intro (L0 := #[.val (.ref a1)]) (plainFor_of_name pn1) O0 (own_entry rfl) ?_
  intro p e s m below meth c T0 V0 hy hml hret hlk hnm W0
  refine o_new W0 (w37 hw) (w38 hw) (w35 hw) (fun _ E => IW.ext E W0.inv) (pc' := 3) (hb hy d7_0) rfl (cells' := 1) (slots' := 1) rfl rfl (by decide) (by decide) ?_
  intro b1 T1 h1 W1 E1 ge1 gz1 gb1 A1 D1
  have Fb1_reason : Fld Z h1 b1 "com/example/countersign/countersign/Verdict" "reason" "Ljava/lang/String;" .null := D1 (Or.inr (w50 hw)) (ty := (.object "java/lang/String")) (by decide)
  refine o_dup W1 (pc' := 4) (hb hy d7_3) rfl rfl ?_
  refine o_aloadN W1 (pc' := 5) (hb hy d7_4) rfl rfl rfl ?_
  refine o_ldcR W1 (w39 hw) (own_wS hw) (own_EL hw) (by simp [consts_1]) (pc' := 7) (hb hy d7_5) rfl (n := 24) (by decide) (by decide) (cells' := 3) (slots' := 29) rfl rfl (by decide) (by decide) (vs := [(.int (StrChars.lo8 (114 : Int32))), (.int (StrChars.lo8 (101 : Int32))), (.int (StrChars.lo8 (97 : Int32))), (.int (StrChars.lo8 (115 : Int32))), (.int (StrChars.lo8 (111 : Int32))), (.int (StrChars.lo8 (110 : Int32)))]) (z := (6 : Int32)) ⟨by decide, by decide⟩ (by decide) (by decide) ?_
  intro s2 T2 h2 V2 t2 k2 W2 E2 C2 X2 Fc2 Fv2 A2 ns2
  refine o_static W2 (y := (⟨"java/util/Objects", "requireNonNull", "(Ljava/lang/Object;Ljava/lang/String;)Ljava/lang/Object;"⟩ : MethodName)) (w40 hw) (w41 hw) (w42 hw) (w43 hw) (by decide) (argsL := [(.ref a1), (.ref s2)]) (CtrN.back (Wd := 2) W2 (rm1 l Z a0 hw a1 s2 h2 W2.old ) (w43 hw) (w42 hw) (by decide) (by decide)) (by rw [hml]; rfl) (lenOf pd1 rfl) (S := [(.ref b1), (.ref b1)]) rfl (by exact Nat.le_of_eq rfl) (pc' := 10) (hb hy d7_7) rfl (cells' := 3) (slots' := 29) rfl rfl (by decide) (by decide) (wy := []) (fun _ _ _ q => ⟨q.1, q.2.1⟩) all0 (fun _ K => IW.keep K sf0 W2.inv) ?_
  intro v3 T3 h3 lo3 W3 K3 q3
  obtain rfl := q3.2.2
  show Gl _ _ _ _ _ _ _ _ [(.ref a1), (.ref b1), (.ref b1)]
  have c4 := (((E_a1.ext E1).ext E2).keep K3)
  refine o_cast W3 (w44 hw) (Ins.self c4) (pc' := 13) (hb hy d7_10) rfl ?_
  intro T5 W5
  have c6 := ((Fb1_reason.ext E2).keep K3 nin0)
  have c7 := ((A1.ext E2).keep K3)
  refine o_special W5 (y := (⟨"com/example/countersign/countersign/Verdict", "<init>", "(Ljava/lang/String;)V"⟩ : MethodName)) rfl (w45 hw) (w46 hw) (w47 hw) (by decide) (a := b1) (argsL := [(.ref a1)]) (CtrN.back (Wd := 1) W5 (rm2 l Z a0 hw b1 a1 h3 W5.old c7 c6 gz1) (w47 hw) (w35 hw) (by decide) (by decide)) (by rw [hml]; rfl) (lenOf pd2 rfl) (S := [(.ref b1)]) rfl (by exact Nat.le_of_eq rfl) (pc' := 16) (hb hy d7_13) rfl (cells' := 3) (slots' := 29) rfl rfl (by decide) (by decide) (wy := [b1]) (fun _ _ _ q => ⟨q.1, q.2.1⟩) (allS ⟨gz1, (Or.inr gb1)⟩ all0) (fun _ K => IW.keep K (sfS (Safe.exa W5.al c7 (by decide) (by decide)) sf0) W5.inv) ?_
  intro v8 T8 h8 lo8 W8 K8 q8
  obtain ⟨P8_0, rfl⟩ := q8.2.2
  show Gl _ _ _ _ _ _ _ _ [(.ref b1)]
  have c9 := (c7.keep K8)
  exact o_retAW W8 (own_EL hw) hlk (v := (.ref b1)) hret rfl rfl (hb hy d7_16) (by decide) (by decide) ⟨b1, gb1, c9, P8_0, rfl⟩
theorem rm4 (l : Launch) (Z : State) (a0 : Array Value) (hw : ∀ d ∈ tables_1, d.before a0 Z = true) (a1 a2 : Addr) (h0 : Heap) (O0 : Old Z Z.heap.size h0) (F_a1_reason : Fld Z h0 a1 "com/example/countersign/countersign/Verdict" "reason" "Ljava/lang/String;" (.ref a2)) :
    CtrN l Z (⟨"com/example/countersign/countersign/Verdict", "isValid", "()Z"⟩ : MethodName) prog_11_method_4_code 1 (some .boolean) [] (⟨0, 0, 0, 0⟩ : Room) #[(.ref a1)] h0 [] (fun v h => v = some (.int 0)) := by
  refine CtrN.intro (L0 := #[.val (.ref a1)]) (plainFor_of_name pn1) O0 (own_entry rfl) ?_
  intro p e s m below meth c T0 hy hml hret hlk hnm W0
  refine o_aloadN W0 (pc' := 1) (hb hy d10_0) rfl rfl rfl ?_
  refine o_getF W0 (w49 hw) Via.refl F_a1_reason (pc' := 4) (hb hy d10_1) rfl ?_
  intro T1 W1
  refine o_ifnonnullY W1 (pc' := 11) (hb hy d10_4) (by decide) rfl ?_
  refine o_iconst W1 (v := 0) (pc' := 12) (hb hy d10_11) rfl rfl ?_
  exact o_retN W1 hlk (t := .boolean) hret (by simp) (z' := (0 : Int32)) (by decide) (hb hy d10_12) (by decide) (by decide) rfl
theorem rm5 (l : Launch) (Z : State) (a0 : Array Value) (hw : ∀ d ∈ tables_1, d.before a0 Z = true) (gCS : Int32) (a1 : Addr) (h0 : Heap) (O0 : Old Z Z.heap.size h0) (SgCS : Sta Z Z.heap "java/lang/String" "COMPACT_STRINGS" "Z" (.int gCS)) (NgCS : ¬ (gCS = (0 : Int32))) (E_a1 : Exa Z h0 a1 "java/lang/StringBuilder") (F_a1_value : Fld Z h0 a1 "java/lang/AbstractStringBuilder" "value" "[B" .null) (g_a1 : Z.heap.size ≤ a1) (F_a1_coder : Fld Z h0 a1 "java/lang/AbstractStringBuilder" "coder" "B" (.int 0)) (F_a1_count : Fld Z h0 a1 "java/lang/AbstractStringBuilder" "count" "I" (.int 0)) :
    CtrN l Z (⟨"java/lang/AbstractStringBuilder", "<init>", "(I)V"⟩ : MethodName) jdk_68_method_2_code 2 none [] (⟨1, 1, 16, 12⟩ : Room) #[(.ref a1), (.int 16)] h0 [a1] (fun v h => ∃ r1 : Addr, ∃ r2 : ClassId, h0.size ≤ r1 ∧ Fld Z h a1 "java/lang/AbstractStringBuilder" "value" "[B" (.ref r1) ∧ Fld Z h a1 "java/lang/AbstractStringBuilder" "coder" "B" (.int 0) ∧ Fld Z h a1 "java/lang/AbstractStringBuilder" "count" "I" (.int 0) ∧ Arv Z h r1 r2 .byte (16 : Int32) [(.int 0), (.int 0), (.int 0), (.int 0), (.int 0), (.int 0), (.int 0), (.int 0), (.int 0), (.int 0), (.int 0), (.int 0), (.int 0), (.int 0), (.int 0), (.int 0)] (.int 0) ∧ v = none) := by
  refine CtrN.intro (L0 := #[.val (.ref a1), .val (.int 16)]) (plainFor_of_name pn2) O0 (own_entry rfl) ?_
  intro p e s m below meth c T0 hy hml hret hlk hnm W0
  refine o_aloadN W0 (pc' := 1) (hb hy d13_0) rfl rfl rfl ?_
  refine o_initO W0 (w73 hw) (w12 hw) (w13 hw) (by rw [hml]; rfl) (pc' := 4) (hb hy d13_1) rfl (by decide) 0 (by exact Nat.le_of_eq rfl) (by decide) ?_
  intro T1 W1
  refine o_getS W1 (w74 hw) Via.refl (SgCS.ext W1.ox) (pc' := 7) (hb hy d13_4) rfl ?_
  intro T2 W2
  refine o_ifN W2 (pc' := 10) (hb hy d13_7) (XT.i0_eq_f NgCS) rfl ?_
  refine o_aloadN W2 (pc' := 11) (hb hy d13_10) rfl rfl rfl ?_
  refine o_iloadN W2 (pc' := 12) (hb hy d13_11) rfl rfl ?_
  refine o_newP W2 (aty := .byte) (w15 hw) (fun _ _ => trivial) (by decide) (cap := 16) (by decide) (by decide) (pc' := 14) (hb hy d13_12) rfl (cells' := 1) (slots' := 16) rfl rfl (by decide) (by decide) (vs := [(.int 0), (.int 0), (.int 0), (.int 0), (.int 0), (.int 0), (.int 0), (.int 0), (.int 0), (.int 0), (.int 0), (.int 0), (.int 0), (.int 0), (.int 0), (.int 0)]) (dv := (.int 0)) rfl rfl ?_
  intro b3 T3 h3 k3 W3 E3 ge3 gz3 gb3 V3
  have c4 := (E_a1.ext E3)
  have c5 := (F_a1_value.ext E3)
  refine o_putF W3 (w75 hw) Via.refl c5 c4 (Or.inl (w76 hw)) (w62 hw) (ty := (.array .byte)) (v' := (.ref b3)) (by decide) rfl rfl g_a1 (Or.inl (List.mem_of_getElem? (i := 0) rfl)) (fun _ _ => trivial) (pc' := 17) (hb hy d13_14) rfl ?_
  intro T6 h6 lo6 W6 R6
  have F6 := c5.same R6
  refine o_aloadN W6 (pc' := 18) (hb hy d13_17) rfl rfl rfl ?_
  refine o_iconst W6 (v := 0) (pc' := 19) (hb hy d13_18) rfl rfl ?_
  have c7 := (c4.wr R6)
  have c8 := ((F_a1_coder.ext E3).other R6 (Or.inr (slot_ne (Or.inl (w78 hw)) (Or.inl (w76 hw)) (by decide) (t := .byte) (t' := (.array .byte)) (by decide) (by decide))))
  refine o_putF W6 (w77 hw) Via.refl c8 c7 (Or.inl (w78 hw)) (w62 hw) (ty := .byte) (v' := (.int 0)) (by decide) rfl (by decide) g_a1 (Or.inl (List.mem_of_getElem? (i := 0) rfl)) (fun _ _ => trivial) (pc' := 22) (hb hy d13_19) rfl ?_
  intro T9 h9 lo9 W9 R9
  have F9 := c8.same R9
  refine o_goto W9 (pc' := 38) (hb hy d13_22) (by decide) rfl ?_
  have c10 := (F6.other R9 (Or.inr (slot_ne (Or.inl (w76 hw)) (Or.inl (w78 hw)) (by decide) (t := (.array .byte)) (t' := .byte) (by decide) (by decide))))
  have c11 := (((F_a1_count.ext E3).other R6 (Or.inr (slot_ne (Or.inl (w101 hw)) (Or.inl (w76 hw)) (by decide) (t := .int) (t' := (.array .byte)) (by decide) (by decide)))).other R9 (Or.inr (slot_ne (Or.inl (w101 hw)) (Or.inl (w78 hw)) (by decide) (t := .int) (t' := .byte) (by decide) (by decide))))
  have c12 := (c7.wr R9)
  have c13 := ((V3.other R6 (own_ne' E_a1.lt ge3)).other R9 (own_ne' E_a1.lt ge3))
  exact o_ret0 W9 hlk hret (hb hy d13_38) (by decide) (by decide) ⟨b3, k3, gb3, c10, F9, c11, c13, rfl⟩
theorem rm6 (l : Launch) (Z : State) (a0 : Array Value) (hw : ∀ d ∈ tables_1, d.before a0 Z = true) (gCS : Int32) (a1 : Addr) (h0 : Heap) (O0 : Old Z Z.heap.size h0) (SgCS : Sta Z Z.heap "java/lang/String" "COMPACT_STRINGS" "Z" (.int gCS)) (NgCS : ¬ (gCS = (0 : Int32))) (E_a1 : Exa Z h0 a1 "java/lang/StringBuilder") (F_a1_value : Fld Z h0 a1 "java/lang/AbstractStringBuilder" "value" "[B" .null) (F_a1_coder : Fld Z h0 a1 "java/lang/AbstractStringBuilder" "coder" "B" (.int 0)) (F_a1_count : Fld Z h0 a1 "java/lang/AbstractStringBuilder" "count" "I" (.int 0)) (g_a1 : Z.heap.size ≤ a1) :
    CtrN l Z (⟨"java/lang/StringBuilder", "<init>", "()V"⟩ : MethodName) jdk_67_method_1_code 1 none [] (⟨2, 1, 16, 25⟩ : Room) #[(.ref a1)] h0 [a1] (fun v h => ∃ r1 : Addr, ∃ r2 : ClassId, h0.size ≤ r1 ∧ Fld Z h a1 "java/lang/AbstractStringBuilder" "value" "[B" (.ref r1) ∧ Fld Z h a1 "java/lang/AbstractStringBuilder" "coder" "B" (.int 0) ∧ Fld Z h a1 "java/lang/AbstractStringBuilder" "count" "I" (.int 0) ∧ Arv Z h r1 r2 .byte (16 : Int32) [(.int 0), (.int 0), (.int 0), (.int 0), (.int 0), (.int 0), (.int 0), (.int 0), (.int 0), (.int 0), (.int 0), (.int 0), (.int 0), (.int 0), (.int 0), (.int 0)] (.int 0) ∧ v = none) := by
  refine CtrN.intro (L0 := #[.val (.ref a1)]) (plainFor_of_name pn3) O0 (own_entry rfl) ?_
  intro p e s m below meth c T0 hy hml hret hlk hnm W0
  refine o_aloadN W0 (pc' := 1) (hb hy d12_0) rfl rfl rfl ?_
  refine o_bipush W0 (v := 16) (pc' := 3) (hb hy d12_1) (by decide) rfl ?_
  refine o_special W0 (y := (⟨"java/lang/AbstractStringBuilder", "<init>", "(I)V"⟩ : MethodName)) rfl (w67 hw) (w68 hw) (w72 hw) (by decide) (a := a1) (argsL := [(.int 16)]) (CtrN.back (Wd := 0) W0 (rm5 l Z a0 hw gCS a1 h0 W0.old SgCS NgCS E_a1 F_a1_value g_a1 F_a1_coder F_a1_count) (w72 hw) (w71 hw) (by decide) (by decide)) (by rw [hml]; rfl) (lenOf pd5 rfl) (S := []) rfl (by exact Nat.le_of_eq rfl) (pc' := 6) (hb hy d12_3) rfl (cells' := 1) (slots' := 16) rfl rfl (by decide) (by decide) (wy := [a1]) (fun _ _ _ q => ⟨q.1, q.2.1⟩) (allS ⟨g_a1, (Or.inl (List.mem_of_getElem? (i := 0) rfl))⟩ all0) (fun _ _ => trivial) ?_
  intro v1 T1 h1 lo1 W1 K1 q1
  obtain ⟨r1_1, r2_1, P1_0, P1_1, P1_2, P1_3, P1_4, rfl⟩ := q1.2.2
  show Gl _ _ _ _ _ _ _ _ []
  have c2 := (E_a1.keep K1)
  exact o_ret0 W1 hlk hret (hb hy d12_6) (by decide) (by decide) ⟨r1_1, r2_1, (Nat.le_trans W0.keep.1 P1_0), P1_1, P1_2, P1_3, P1_4, rfl⟩
theorem rm7 (l : Launch) (Z : State) (a0 : Array Value) (hw : ∀ d ∈ tables_1, d.before a0 Z = true) (gCS : Int32) (a1 : Addr) (h0 : Heap) (O0 : Old Z Z.heap.size h0) (SgCS : Sta Z Z.heap "java/lang/String" "COMPACT_STRINGS" "Z" (.int gCS)) (NgCS : ¬ (gCS = (0 : Int32))) (F_a1_coder : Fld Z h0 a1 "java/lang/String" "coder" "B" (.int 0)) :
    CtrN l Z (⟨"java/lang/String", "coder", "()B"⟩ : MethodName) jdk_42_method_152_code 1 (some .byte) [] (⟨0, 0, 0, 0⟩ : Room) #[(.ref a1)] h0 [] (fun v h => v = some (.int 0)) := by
  refine CtrN.intro (L0 := #[.val (.ref a1)]) (plainFor_of_name pn4) O0 (own_entry rfl) ?_
  intro p e s m below meth c T0 hy hml hret hlk hnm W0
  refine o_getS W0 (w22 hw) Via.refl (SgCS.ext W0.ox) (pc' := 3) (hb hy d17_0) rfl ?_
  intro T1 W1
  refine o_ifN W1 (pc' := 6) (hb hy d17_3) (XT.i0_eq_f NgCS) rfl ?_
  refine o_aloadN W1 (pc' := 7) (hb hy d17_6) rfl rfl rfl ?_
  refine o_getF W1 (w21 hw) Via.refl F_a1_coder (pc' := 10) (hb hy d17_7) rfl ?_
  intro T2 W2
  refine o_goto W2 (pc' := 14) (hb hy d17_10) (by decide) rfl ?_
  exact o_retN W2 hlk (t := .byte) hret (by simp) (z' := (0 : Int32)) (by decide) (hb hy d17_14) (by decide) (by decide) rfl
theorem rm8 (l : Launch) (Z : State) (a0 : Array Value) (hw : ∀ d ∈ tables_1, d.before a0 Z = true) (gCS : Int32) (a1 a2 : Addr) (k_a2 : ClassId) (h0 : Heap) (O0 : Old Z Z.heap.size h0) (F_a1_value : Fld Z h0 a1 "java/lang/String" "value" "[B" (.ref a2)) (V_a2 : Arv Z h0 a2 k_a2 .byte (9 : Int32) [(.int (StrChars.lo8 (105 : Int32))), (.int (StrChars.lo8 (110 : Int32))), (.int (StrChars.lo8 (118 : Int32))), (.int (StrChars.lo8 (97 : Int32))), (.int (StrChars.lo8 (108 : Int32))), (.int (StrChars.lo8 (105 : Int32))), (.int (StrChars.lo8 (100 : Int32))), (.int (StrChars.lo8 (58 : Int32))), (.int (StrChars.lo8 (32 : Int32)))] (.int 0)) (E_a1 : Exa Z h0 a1 "java/lang/String") (SgCS : Sta Z Z.heap "java/lang/String" "COMPACT_STRINGS" "Z" (.int gCS)) (NgCS : ¬ (gCS = (0 : Int32))) (F_a1_coder : Fld Z h0 a1 "java/lang/String" "coder" "B" (.int 0)) :
    CtrN l Z (⟨"java/lang/String", "length", "()I"⟩ : MethodName) jdk_42_method_54_code 1 (some .int) [] (⟨1, 0, 0, 13⟩ : Room) #[(.ref a1)] h0 [] (fun v h => v = some (.int 9)) := by
  refine CtrN.intro (L0 := #[.val (.ref a1)]) (plainFor_of_name pn4) O0 (own_entry rfl) ?_
  intro p e s m below meth c T0 hy hml hret hlk hnm W0
  refine o_aloadN W0 (pc' := 1) (hb hy d16_0) rfl rfl rfl ?_
  refine o_getF W0 (w20 hw) Via.refl F_a1_value (pc' := 4) (hb hy d16_1) rfl ?_
  intro T1 W1
  refine o_len W1 V_a2 (pc' := 5) (hb hy d16_4) rfl ?_
  refine o_aloadN W1 (pc' := 6) (hb hy d16_5) rfl rfl rfl ?_
  refine o_virtual W1 (y := (⟨"java/lang/String", "coder", "()B"⟩ : MethodName)) (z := (⟨"java/lang/String", "coder", "()B"⟩ : MethodName)) (w95 hw) (w96 hw) (o_nf W1 rfl (w98 hw)) (w98 hw) (w97 hw) (by decide) E_a1 (argsL := []) (CtrN.back (Wd := 1) W1 (rm7 l Z a0 hw gCS a1 h0 W1.old SgCS NgCS F_a1_coder) (w99 hw) (w3 hw) (by decide) (by decide)) (by rw [hml]; rfl) (lenOf pd7 rfl) (S := [(.int 9)]) rfl (by exact Nat.le_of_eq rfl) (pc' := 9) (hb hy d16_6) rfl (cells' := 0) (slots' := 0) rfl rfl (by decide) (by decide) (wy := []) (fun _ _ _ q => ⟨q.1, q.2.1⟩) all0 (fun _ _ => trivial) ?_
  intro v2 T2 h2 lo2 W2 K2 q2
  obtain rfl := q2.2.2
  show Gl _ _ _ _ _ _ _ _ [(.int 0), (.int 9)]
  refine o_ishr W2 (v := 9) (pc' := 10) (hb hy d16_9) (by decide) rfl ?_
  exact o_retI W2 hlk hret (hb hy d16_10) (by decide) (by decide) rfl
theorem rm9 (l : Launch) (Z : State) (a0 : Array Value) (hw : ∀ d ∈ tables_1, d.before a0 Z = true) (a1 a2 : Addr) (k_a2 : ClassId) (h0 : Heap) (O0 : Old Z Z.heap.size h0) (F_a1_value : Fld Z h0 a1 "java/lang/AbstractStringBuilder" "value" "[B" (.ref a2)) (V_a2 : Arv Z h0 a2 k_a2 .byte (16 : Int32) [(.int 0), (.int 0), (.int 0), (.int 0), (.int 0), (.int 0), (.int 0), (.int 0), (.int 0), (.int 0), (.int 0), (.int 0), (.int 0), (.int 0), (.int 0), (.int 0)] (.int 0)) (F_a1_coder : Fld Z h0 a1 "java/lang/AbstractStringBuilder" "coder" "B" (.int 0)) :
    CtrN l Z (⟨"java/lang/AbstractStringBuilder", "ensureCapacityInternal", "(I)V"⟩ : MethodName) jdk_68_method_9_code 3 none [] (⟨0, 0, 0, 0⟩ : Room) #[(.ref a1), (.int 9)] h0 [] (fun v h => v = none) := by
  refine CtrN.intro (L0 := #[.val (.ref a1), .val (.int 9), .unset]) (plainFor_of_name pn2) O0 (own_entry rfl) ?_
  intro p e s m below meth c T0 hy hml hret hlk hnm W0
  refine o_aloadN W0 (pc' := 1) (hb hy d18_0) rfl rfl rfl ?_
  refine o_getF W0 (w75 hw) Via.refl F_a1_value (pc' := 4) (hb hy d18_1) rfl ?_
  intro T1 W1
  refine o_len W1 V_a2 (pc' := 5) (hb hy d18_4) rfl ?_
  refine o_aloadN W1 (pc' := 6) (hb hy d18_5) rfl rfl rfl ?_
  refine o_getF W1 (w77 hw) Via.refl F_a1_coder (pc' := 9) (hb hy d18_6) rfl ?_
  intro T2 W2
  refine o_ishr W2 (v := 16) (pc' := 10) (hb hy d18_9) (by decide) rfl ?_
  refine o_istoreN W2 (L' := #[.val (.ref a1), .val (.int 9), .val (.int 16)]) (pc' := 11) (hb hy d18_10) rfl rfl ?_
  refine o_iloadN W2 (pc' := 12) (hb hy d18_11) rfl rfl ?_
  refine o_iloadN W2 (pc' := 13) (hb hy d18_12) rfl rfl ?_
  refine o_isub W2 (v := (-7 : Int32)) (pc' := 14) (hb hy d18_13) (by decide) rfl ?_
  refine o_ifY W2 (pc' := 38) (hb hy d18_14) (XT.i0_le_t (by decide)) (by decide) rfl ?_
  exact o_ret0 W2 hlk hret (hb hy d18_38) (by decide) (by decide) rfl
theorem rm10 (l : Launch) (Z : State) (a0 : Array Value) (hw : ∀ d ∈ tables_1, d.before a0 Z = true) (gCS : Int32) (a1 a2 : Addr) (h0 : Heap) (O0 : Old Z Z.heap.size h0) (SgCS : Sta Z Z.heap "java/lang/String" "COMPACT_STRINGS" "Z" (.int gCS)) (NgCS : ¬ (gCS = (0 : Int32))) (F_a1_coder : Fld Z h0 a1 "java/lang/AbstractStringBuilder" "coder" "B" (.int 0)) (E_a2 : Exa Z h0 a2 "java/lang/String") (F_a2_coder : Fld Z h0 a2 "java/lang/String" "coder" "B" (.int 0)) :
    CtrN l Z (⟨"java/lang/AbstractStringBuilder", "inflateIfNeededFor", "(Ljava/lang/String;)V"⟩ : MethodName) jdk_68_method_71_code 2 none [] (⟨1, 0, 0, 13⟩ : Room) #[(.ref a1), (.ref a2)] h0 [] (fun v h => v = none) := by
  refine CtrN.intro (L0 := #[.val (.ref a1), .val (.ref a2)]) (plainFor_of_name pn2) O0 (own_entry rfl) ?_
  intro p e s m below meth c T0 hy hml hret hlk hnm W0
  refine o_getS W0 (w74 hw) Via.refl (SgCS.ext W0.ox) (pc' := 3) (hb hy d20_0) rfl ?_
  intro T1 W1
  refine o_ifN W1 (pc' := 6) (hb hy d20_3) (XT.i0_eq_f NgCS) rfl ?_
  refine o_aloadN W1 (pc' := 7) (hb hy d20_6) rfl rfl rfl ?_
  refine o_getF W1 (w77 hw) Via.refl F_a1_coder (pc' := 10) (hb hy d20_7) rfl ?_
  intro T2 W2
  refine o_aloadN W2 (pc' := 11) (hb hy d20_10) rfl rfl rfl ?_
  refine o_virtual W2 (y := (⟨"java/lang/String", "coder", "()B"⟩ : MethodName)) (z := (⟨"java/lang/String", "coder", "()B"⟩ : MethodName)) (w117 hw) (w96 hw) (o_nf W2 rfl (w98 hw)) (w98 hw) (w97 hw) (by decide) E_a2 (argsL := []) (CtrN.back (Wd := 1) W2 (rm7 l Z a0 hw gCS a2 h0 W2.old SgCS NgCS F_a2_coder) (w99 hw) (w3 hw) (by decide) (by decide)) (by rw [hml]; rfl) (lenOf pd7 rfl) (S := [(.int 0)]) rfl (by exact Nat.le_of_eq rfl) (pc' := 14) (hb hy d20_11) rfl (cells' := 0) (slots' := 0) rfl rfl (by decide) (by decide) (wy := []) (fun _ _ _ q => ⟨q.1, q.2.1⟩) all0 (fun _ _ => trivial) ?_
  intro v3 T3 h3 lo3 W3 K3 q3
  obtain rfl := q3.2.2
  show Gl _ _ _ _ _ _ _ _ [(.int 0), (.int 0)]
  refine o_icmpY W3 (pc' := 21) (hb hy d20_14) (XT.ii_eq_t (by decide)) (by decide) rfl ?_
  exact o_ret0 W3 hlk hret (hb hy d20_21) (by decide) (by decide) rfl
theorem rm11 (l : Launch) (Z : State) (a0 : Array Value) (hw : ∀ d ∈ tables_1, d.before a0 Z = true) (gCS : Int32) (a1 a2 a3 : Addr) (k_a3 k_a2 : ClassId) (h0 : Heap) (O0 : Old Z Z.heap.size h0) (E_a1 : Exa Z h0 a1 "java/lang/String") (SgCS : Sta Z Z.heap "java/lang/String" "COMPACT_STRINGS" "Z" (.int gCS)) (NgCS : ¬ (gCS = (0 : Int32))) (F_a1_coder : Fld Z h0 a1 "java/lang/String" "coder" "B" (.int 0)) (F_a1_value : Fld Z h0 a1 "java/lang/String" "value" "[B" (.ref a3)) (V_a3 : Arv Z h0 a3 k_a3 .byte (9 : Int32) [(.int (StrChars.lo8 (105 : Int32))), (.int (StrChars.lo8 (110 : Int32))), (.int (StrChars.lo8 (118 : Int32))), (.int (StrChars.lo8 (97 : Int32))), (.int (StrChars.lo8 (108 : Int32))), (.int (StrChars.lo8 (105 : Int32))), (.int (StrChars.lo8 (100 : Int32))), (.int (StrChars.lo8 (58 : Int32))), (.int (StrChars.lo8 (32 : Int32)))] (.int 0)) (V_a2 : Arv Z h0 a2 k_a2 .byte (16 : Int32) [(.int 0), (.int 0), (.int 0), (.int 0), (.int 0), (.int 0), (.int 0), (.int 0), (.int 0), (.int 0), (.int 0), (.int 0), (.int 0), (.int 0), (.int 0), (.int 0)] (.int 0)) (g_a2 : Z.heap.size ≤ a2) :
    CtrN l Z (⟨"java/lang/String", "getBytes", "([BIB)V"⟩ : MethodName) jdk_42_method_147_code 4 none [] (⟨1, 0, 0, 27⟩ : Room) #[(.ref a1), (.ref a2), (.int 0), (.int 0)] h0 [a2] (fun v h => Arv Z h a2 k_a2 .byte (16 : Int32) [(.int (StrChars.lo8 (105 : Int32))), (.int (StrChars.lo8 (110 : Int32))), (.int (StrChars.lo8 (118 : Int32))), (.int (StrChars.lo8 (97 : Int32))), (.int (StrChars.lo8 (108 : Int32))), (.int (StrChars.lo8 (105 : Int32))), (.int (StrChars.lo8 (100 : Int32))), (.int (StrChars.lo8 (58 : Int32))), (.int (StrChars.lo8 (32 : Int32))), (.int 0), (.int 0), (.int 0), (.int 0), (.int 0), (.int 0), (.int 0)] (.int 0) ∧ v = none) := by
  refine CtrN.intro (L0 := #[.val (.ref a1), .val (.ref a2), .val (.int 0), .val (.int 0)]) (plainFor_of_name pn4) O0 (own_entry rfl) ?_
  intro p e s m below meth c T0 hy hml hret hlk hnm W0
  refine o_aloadN W0 (pc' := 1) (hb hy d21_0) rfl rfl rfl ?_
  refine o_virtual W0 (y := (⟨"java/lang/String", "coder", "()B"⟩ : MethodName)) (z := (⟨"java/lang/String", "coder", "()B"⟩ : MethodName)) (w95 hw) (w96 hw) (o_nf W0 rfl (w98 hw)) (w98 hw) (w97 hw) (by decide) E_a1 (argsL := []) (CtrN.back (Wd := 0) W0 (rm7 l Z a0 hw gCS a1 h0 W0.old SgCS NgCS F_a1_coder) (w99 hw) (w3 hw) (by decide) (by decide)) (by rw [hml]; rfl) (lenOf pd7 rfl) (S := []) rfl (by exact Nat.le_of_eq rfl) (pc' := 4) (hb hy d21_1) rfl (cells' := 0) (slots' := 0) rfl rfl (by decide) (by decide) (wy := []) (fun _ _ _ q => ⟨q.1, q.2.1⟩) all0 (fun _ _ => trivial) ?_
  intro v1 T1 h1 lo1 W1 K1 q1
  obtain rfl := q1.2.2
  show Gl _ _ _ _ _ _ _ _ [(.int 0)]
  refine o_iloadN W1 (pc' := 5) (hb hy d21_4) rfl rfl ?_
  refine o_icmpN W1 (pc' := 8) (hb hy d21_5) (XT.ii_ne_f (by decide)) rfl ?_
  refine o_aloadN W1 (pc' := 9) (hb hy d21_8) rfl rfl rfl ?_
  have c2 := (F_a1_value.keep K1 nin0)
  refine o_getF W1 (w20 hw) Via.refl c2 (pc' := 12) (hb hy d21_9) rfl ?_
  intro T3 W3
  refine o_iconst W3 (v := 0) (pc' := 13) (hb hy d21_12) rfl rfl ?_
  refine o_aloadN W3 (pc' := 14) (hb hy d21_13) rfl rfl rfl ?_
  refine o_iloadN W3 (pc' := 15) (hb hy d21_14) rfl rfl ?_
  refine o_iloadN W3 (pc' := 16) (hb hy d21_15) rfl rfl ?_
  refine o_ishl W3 (v := 0) (pc' := 17) (hb hy d21_16) (by decide) rfl ?_
  refine o_aloadN W3 (pc' := 18) (hb hy d21_17) rfl rfl rfl ?_
  refine o_getF W3 (w20 hw) Via.refl c2 (pc' := 21) (hb hy d21_18) rfl ?_
  intro T4 W4
  have c5 := (V_a3.keep K1 nin0)
  refine o_len W4 c5 (pc' := 22) (hb hy d21_21) rfl ?_
  have c6 := (V_a2.keep K1 nin0)
  refine o_copy W4 (w123 hw) (w126 hw) (w124 hw) (w125 hw) c5 c6 (us := [(.int (StrChars.lo8 (105 : Int32))), (.int (StrChars.lo8 (110 : Int32))), (.int (StrChars.lo8 (118 : Int32))), (.int (StrChars.lo8 (97 : Int32))), (.int (StrChars.lo8 (108 : Int32))), (.int (StrChars.lo8 (105 : Int32))), (.int (StrChars.lo8 (100 : Int32))), (.int (StrChars.lo8 (58 : Int32))), (.int (StrChars.lo8 (32 : Int32)))]) (Or.inl ⟨rfl, rfl⟩) (by decide) (by decide) (by decide) (by decide) (by decide) rfl (Nat.le_of_ble_eq_true rfl) (vd' := [(.int (StrChars.lo8 (105 : Int32))), (.int (StrChars.lo8 (110 : Int32))), (.int (StrChars.lo8 (118 : Int32))), (.int (StrChars.lo8 (97 : Int32))), (.int (StrChars.lo8 (108 : Int32))), (.int (StrChars.lo8 (105 : Int32))), (.int (StrChars.lo8 (100 : Int32))), (.int (StrChars.lo8 (58 : Int32))), (.int (StrChars.lo8 (32 : Int32))), (.int 0), (.int 0), (.int 0), (.int 0), (.int 0), (.int 0), (.int 0)]) rfl g_a2 (Or.inl (List.mem_of_getElem? (i := 0) rfl)) (fun _ _ => trivial) (by rw [hml]; rfl) (pc' := 25) (hb hy d21_22) rfl (by decide) 0 (by exact Nat.le_of_eq rfl) (by decide) ?_
  intro T7 h7 lo7 W7 K7 V7
  refine o_goto W7 (pc' := 43) (hb hy d21_25) (by decide) rfl ?_
  exact o_ret0 W7 hlk hret (hb hy d21_43) (by decide) (by decide) ⟨V7, rfl⟩
theorem rm12 (l : Launch) (Z : State) (a0 : Array Value) (hw : ∀ d ∈ tables_1, d.before a0 Z = true) (gCS : Int32) (a1 a2 a3 a4 : Addr) (k_a4 k_a3 : ClassId) (h0 : Heap) (O0 : Old Z Z.heap.size h0) (E_a1 : Exa Z h0 a1 "java/lang/StringBuilder") (SgCS : Sta Z Z.heap "java/lang/String" "COMPACT_STRINGS" "Z" (.int gCS)) (NgCS : ¬ (gCS = (0 : Int32))) (F_a1_coder : Fld Z h0 a1 "java/lang/AbstractStringBuilder" "coder" "B" (.int 0)) (E_a2 : Exa Z h0 a2 "java/lang/String") (F_a2_coder : Fld Z h0 a2 "java/lang/String" "coder" "B" (.int 0)) (F_a1_value : Fld Z h0 a1 "java/lang/AbstractStringBuilder" "value" "[B" (.ref a3)) (F_a2_value : Fld Z h0 a2 "java/lang/String" "value" "[B" (.ref a4)) (V_a4 : Arv Z h0 a4 k_a4 .byte (9 : Int32) [(.int (StrChars.lo8 (105 : Int32))), (.int (StrChars.lo8 (110 : Int32))), (.int (StrChars.lo8 (118 : Int32))), (.int (StrChars.lo8 (97 : Int32))), (.int (StrChars.lo8 (108 : Int32))), (.int (StrChars.lo8 (105 : Int32))), (.int (StrChars.lo8 (100 : Int32))), (.int (StrChars.lo8 (58 : Int32))), (.int (StrChars.lo8 (32 : Int32)))] (.int 0)) (V_a3 : Arv Z h0 a3 k_a3 .byte (16 : Int32) [(.int 0), (.int 0), (.int 0), (.int 0), (.int 0), (.int 0), (.int 0), (.int 0), (.int 0), (.int 0), (.int 0), (.int 0), (.int 0), (.int 0), (.int 0), (.int 0)] (.int 0)) (g_a3 : Z.heap.size ≤ a3) :
    CtrN l Z (⟨"java/lang/AbstractStringBuilder", "putStringAt", "(ILjava/lang/String;)V"⟩ : MethodName) jdk_68_method_73_code 3 none [] (⟨2, 0, 0, 42⟩ : Room) #[(.ref a1), (.int 0), (.ref a2)] h0 [a3] (fun v h => Arv Z h a3 k_a3 .byte (16 : Int32) [(.int (StrChars.lo8 (105 : Int32))), (.int (StrChars.lo8 (110 : Int32))), (.int (StrChars.lo8 (118 : Int32))), (.int (StrChars.lo8 (97 : Int32))), (.int (StrChars.lo8 (108 : Int32))), (.int (StrChars.lo8 (105 : Int32))), (.int (StrChars.lo8 (100 : Int32))), (.int (StrChars.lo8 (58 : Int32))), (.int (StrChars.lo8 (32 : Int32))), (.int 0), (.int 0), (.int 0), (.int 0), (.int 0), (.int 0), (.int 0)] (.int 0) ∧ v = none) := by
  refine CtrN.intro (L0 := #[.val (.ref a1), .val (.int 0), .val (.ref a2)]) (plainFor_of_name pn2) O0 (own_entry rfl) ?_
  intro p e s m below meth c T0 hy hml hret hlk hnm W0
  refine o_aloadN W0 (pc' := 1) (hb hy d19_0) rfl rfl rfl ?_
  refine o_aloadN W0 (pc' := 2) (hb hy d19_1) rfl rfl rfl ?_
  refine o_private W0 (y := (⟨"java/lang/AbstractStringBuilder", "inflateIfNeededFor", "(Ljava/lang/String;)V"⟩ : MethodName)) (w112 hw) (w113 hw) (w115 hw) (w114 hw) (w116 hw) (by decide) E_a1 (argsL := [(.ref a2)]) (CtrN.back (Wd := 0) W0 (rm10 l Z a0 hw gCS a1 a2 h0 W0.old SgCS NgCS F_a1_coder E_a2 F_a2_coder) (w116 hw) (w71 hw) (by decide) (by decide)) (by rw [hml]; rfl) (lenOf pd2 rfl) (S := []) rfl (by exact Nat.le_of_eq rfl) (pc' := 5) (hb hy d19_2) rfl (cells' := 0) (slots' := 0) rfl rfl (by decide) (by decide) (wy := []) (fun _ _ _ q => ⟨q.1, q.2.1⟩) all0 (fun _ _ => trivial) ?_
  intro v1 T1 h1 lo1 W1 K1 q1
  obtain rfl := q1.2.2
  show Gl _ _ _ _ _ _ _ _ []
  refine o_aloadN W1 (pc' := 6) (hb hy d19_5) rfl rfl rfl ?_
  refine o_aloadN W1 (pc' := 7) (hb hy d19_6) rfl rfl rfl ?_
  have c2 := (F_a1_value.keep K1 nin0)
  refine o_getF W1 (w75 hw) Via.refl c2 (pc' := 10) (hb hy d19_7) rfl ?_
  intro T3 W3
  refine o_iloadN W3 (pc' := 11) (hb hy d19_10) rfl rfl ?_
  refine o_aloadN W3 (pc' := 12) (hb hy d19_11) rfl rfl rfl ?_
  have c4 := (F_a1_coder.keep K1 nin0)
  refine o_getF W3 (w77 hw) Via.refl c4 (pc' := 15) (hb hy d19_12) rfl ?_
  intro T5 W5
  have c6 := (F_a2_coder.keep K1 nin0)
  have c7 := (F_a2_value.keep K1 nin0)
  have c8 := (V_a4.keep K1 nin0)
  have c9 := (V_a3.keep K1 nin0)
  have c10 := (E_a2.keep K1)
  refine o_virtual W5 (y := (⟨"java/lang/String", "getBytes", "([BIB)V"⟩ : MethodName)) (z := (⟨"java/lang/String", "getBytes", "([BIB)V"⟩ : MethodName)) (w118 hw) (w119 hw) (o_nf W5 rfl (w121 hw)) (w121 hw) (w120 hw) (by decide) c10 (argsL := [(.ref a3), (.int 0), (.int 0)]) (CtrN.back (Wd := 0) W5 (rm11 l Z a0 hw gCS a2 a3 a4 k_a4 k_a3 h1 W5.old c10 SgCS NgCS c6 c7 c8 c9 g_a3) (w122 hw) (w3 hw) (by decide) (by decide)) (by rw [hml]; rfl) (lenOf pd9 rfl) (S := []) rfl (by exact Nat.le_of_eq rfl) (pc' := 18) (hb hy d19_15) rfl (cells' := 0) (slots' := 0) rfl rfl (by decide) (by decide) (wy := [a3]) (fun _ _ _ q => ⟨q.1, q.2.1⟩) (allS ⟨g_a3, (Or.inl (List.mem_of_getElem? (i := 0) rfl))⟩ all0) (fun _ _ => trivial) ?_
  intro v11 T11 h11 lo11 W11 K11 q11
  obtain ⟨P11_0, rfl⟩ := q11.2.2
  show Gl _ _ _ _ _ _ _ _ []
  exact o_ret0 W11 hlk hret (hb hy d19_18) (by decide) (by decide) ⟨P11_0, rfl⟩
theorem rm13 (l : Launch) (Z : State) (a0 : Array Value) (hw : ∀ d ∈ tables_1, d.before a0 Z = true) (gCS : Int32) (a1 a2 a3 : Addr) (k_a3 : ClassId) (a4 : Addr) (k_a4 : ClassId) (h0 : Heap) (O0 : Old Z Z.heap.size h0) (E_a2 : Exa Z h0 a2 "java/lang/String") (F_a2_value : Fld Z h0 a2 "java/lang/String" "value" "[B" (.ref a3)) (V_a3 : Arv Z h0 a3 k_a3 .byte (9 : Int32) [(.int (StrChars.lo8 (105 : Int32))), (.int (StrChars.lo8 (110 : Int32))), (.int (StrChars.lo8 (118 : Int32))), (.int (StrChars.lo8 (97 : Int32))), (.int (StrChars.lo8 (108 : Int32))), (.int (StrChars.lo8 (105 : Int32))), (.int (StrChars.lo8 (100 : Int32))), (.int (StrChars.lo8 (58 : Int32))), (.int (StrChars.lo8 (32 : Int32)))] (.int 0)) (SgCS : Sta Z Z.heap "java/lang/String" "COMPACT_STRINGS" "Z" (.int gCS)) (NgCS : ¬ (gCS = (0 : Int32))) (F_a2_coder : Fld Z h0 a2 "java/lang/String" "coder" "B" (.int 0)) (F_a1_count : Fld Z h0 a1 "java/lang/AbstractStringBuilder" "count" "I" (.int 0)) (E_a1 : Exa Z h0 a1 "java/lang/StringBuilder") (F_a1_value : Fld Z h0 a1 "java/lang/AbstractStringBuilder" "value" "[B" (.ref a4)) (V_a4 : Arv Z h0 a4 k_a4 .byte (16 : Int32) [(.int 0), (.int 0), (.int 0), (.int 0), (.int 0), (.int 0), (.int 0), (.int 0), (.int 0), (.int 0), (.int 0), (.int 0), (.int 0), (.int 0), (.int 0), (.int 0)] (.int 0)) (F_a1_coder : Fld Z h0 a1 "java/lang/AbstractStringBuilder" "coder" "B" (.int 0)) (g_a4 : Z.heap.size ≤ a4) (g_a1 : Z.heap.size ≤ a1) :
    CtrN l Z (⟨"java/lang/AbstractStringBuilder", "append", "(Ljava/lang/String;)Ljava/lang/AbstractStringBuilder;"⟩ : MethodName) jdk_68_method_22_code 3 (some (.object "java/lang/AbstractStringBuilder")) [] (⟨3, 0, 0, 56⟩ : Room) #[(.ref a1), (.ref a2)] h0 [a4, a1] (fun v h => Fld Z h a1 "java/lang/AbstractStringBuilder" "count" "I" (.int 9) ∧ Fld Z h a1 "java/lang/AbstractStringBuilder" "value" "[B" (.ref a4) ∧ Arv Z h a4 k_a4 .byte (16 : Int32) [(.int (StrChars.lo8 (105 : Int32))), (.int (StrChars.lo8 (110 : Int32))), (.int (StrChars.lo8 (118 : Int32))), (.int (StrChars.lo8 (97 : Int32))), (.int (StrChars.lo8 (108 : Int32))), (.int (StrChars.lo8 (105 : Int32))), (.int (StrChars.lo8 (100 : Int32))), (.int (StrChars.lo8 (58 : Int32))), (.int (StrChars.lo8 (32 : Int32))), (.int 0), (.int 0), (.int 0), (.int 0), (.int 0), (.int 0), (.int 0)] (.int 0) ∧ Fld Z h a1 "java/lang/AbstractStringBuilder" "coder" "B" (.int 0) ∧ v = some (.ref a1)) := by
  refine CtrN.intro (L0 := #[.val (.ref a1), .val (.ref a2), .unset]) (plainFor_of_name pn2) O0 (own_entry rfl) ?_
  intro p e s m below meth c T0 hy hml hret hlk hnm W0
  refine o_aloadN W0 (pc' := 1) (hb hy d15_0) rfl rfl rfl ?_
  refine o_ifnonnullY W0 (pc' := 9) (hb hy d15_1) (by decide) rfl ?_
  refine o_aloadN W0 (pc' := 10) (hb hy d15_9) rfl rfl rfl ?_
  refine o_virtual W0 (y := (⟨"java/lang/String", "length", "()I"⟩ : MethodName)) (z := (⟨"java/lang/String", "length", "()I"⟩ : MethodName)) (w90 hw) (w91 hw) (o_nf W0 rfl (w93 hw)) (w93 hw) (w92 hw) (by decide) E_a2 (argsL := []) (CtrN.back (Wd := 0) W0 (rm8 l Z a0 hw gCS a2 a3 k_a3 h0 W0.old F_a2_value V_a3 E_a2 SgCS NgCS F_a2_coder) (w94 hw) (w3 hw) (by decide) (by decide)) (by rw [hml]; rfl) (lenOf pd8 rfl) (S := []) rfl (by exact Nat.le_of_eq rfl) (pc' := 13) (hb hy d15_10) rfl (cells' := 0) (slots' := 0) rfl rfl (by decide) (by decide) (wy := []) (fun _ _ _ q => ⟨q.1, q.2.1⟩) all0 (fun _ _ => trivial) ?_
  intro v1 T1 h1 lo1 W1 K1 q1
  obtain rfl := q1.2.2
  show Gl _ _ _ _ _ _ _ _ [(.int 9)]
  refine o_istoreN W1 (L' := #[.val (.ref a1), .val (.ref a2), .val (.int 9)]) (pc' := 14) (hb hy d15_13) rfl rfl ?_
  refine o_aloadN W1 (pc' := 15) (hb hy d15_14) rfl rfl rfl ?_
  refine o_aloadN W1 (pc' := 16) (hb hy d15_15) rfl rfl rfl ?_
  have c2 := (F_a1_count.keep K1 nin0)
  refine o_getF W1 (w100 hw) Via.refl c2 (pc' := 19) (hb hy d15_16) rfl ?_
  intro T3 W3
  refine o_iloadN W3 (pc' := 20) (hb hy d15_19) rfl rfl ?_
  refine o_iadd W3 (v := 9) (pc' := 21) (hb hy d15_20) (by decide) rfl ?_
  have c4 := (E_a1.keep K1)
  have c5 := (F_a1_value.keep K1 nin0)
  have c6 := (V_a4.keep K1 nin0)
  have c7 := (F_a1_coder.keep K1 nin0)
  refine o_private W3 (y := (⟨"java/lang/AbstractStringBuilder", "ensureCapacityInternal", "(I)V"⟩ : MethodName)) (w102 hw) (w103 hw) (w105 hw) (w104 hw) (w106 hw) (by decide) c4 (argsL := [(.int 9)]) (CtrN.back (Wd := 0) W3 (rm9 l Z a0 hw a1 a4 k_a4 h1 W3.old c5 c6 c7) (w106 hw) (w71 hw) (by decide) (by decide)) (by rw [hml]; rfl) (lenOf pd5 rfl) (S := []) rfl (by exact Nat.le_of_eq rfl) (pc' := 24) (hb hy d15_21) rfl (cells' := 0) (slots' := 0) rfl rfl (by decide) (by decide) (wy := []) (fun _ _ _ q => ⟨q.1, q.2.1⟩) all0 (fun _ _ => trivial) ?_
  intro v8 T8 h8 lo8 W8 K8 q8
  obtain rfl := q8.2.2
  show Gl _ _ _ _ _ _ _ _ []
  refine o_aloadN W8 (pc' := 25) (hb hy d15_24) rfl rfl rfl ?_
  refine o_aloadN W8 (pc' := 26) (hb hy d15_25) rfl rfl rfl ?_
  have c9 := (c2.keep K8 nin0)
  refine o_getF W8 (w100 hw) Via.refl c9 (pc' := 29) (hb hy d15_26) rfl ?_
  intro T10 W10
  refine o_aloadN W10 (pc' := 30) (hb hy d15_29) rfl rfl rfl ?_
  have c11 := (c7.keep K8 nin0)
  have c12 := ((F_a2_coder.keep K1 nin0).keep K8 nin0)
  have c13 := (c5.keep K8 nin0)
  have c14 := ((F_a2_value.keep K1 nin0).keep K8 nin0)
  have c15 := ((V_a3.keep K1 nin0).keep K8 nin0)
  have c16 := (c6.keep K8 nin0)
  have c17 := (c4.keep K8)
  have c18 := ((E_a2.keep K1).keep K8)
  refine o_private W10 (y := (⟨"java/lang/AbstractStringBuilder", "putStringAt", "(ILjava/lang/String;)V"⟩ : MethodName)) (w107 hw) (w108 hw) (w110 hw) (w109 hw) (w111 hw) (by decide) c17 (argsL := [(.int 0), (.ref a2)]) (CtrN.back (Wd := 0) W10 (rm12 l Z a0 hw gCS a1 a2 a4 a3 k_a3 k_a4 h8 W10.old c17 SgCS NgCS c11 c18 c12 c13 c14 c15 c16 g_a4) (w111 hw) (w71 hw) (by decide) (by decide)) (by rw [hml]; rfl) (lenOf pd10 rfl) (S := []) rfl (by exact Nat.le_of_eq rfl) (pc' := 33) (hb hy d15_30) rfl (cells' := 0) (slots' := 0) rfl rfl (by decide) (by decide) (wy := [a4]) (fun _ _ _ q => ⟨q.1, q.2.1⟩) (allS ⟨g_a4, (Or.inl (List.mem_of_getElem? (i := 0) rfl))⟩ all0) (fun _ _ => trivial) ?_
  intro v19 T19 h19 lo19 W19 K19 q19
  obtain ⟨P19_0, rfl⟩ := q19.2.2
  show Gl _ _ _ _ _ _ _ _ []
  refine o_aloadN W19 (pc' := 34) (hb hy d15_33) rfl rfl rfl ?_
  refine o_dup W19 (pc' := 35) (hb hy d15_34) rfl rfl ?_
  have c20 := (c17.keep K19)
  have c21 := (c9.keep K19 (ninS (Exa.neArv c17 c16 (w62 hw)) nin0))
  refine o_getF W19 (w100 hw) Via.refl c21 (pc' := 38) (hb hy d15_35) rfl ?_
  intro T22 W22
  refine o_iloadN W22 (pc' := 39) (hb hy d15_38) rfl rfl ?_
  refine o_iadd W22 (v := 9) (pc' := 40) (hb hy d15_39) (by decide) rfl ?_
  refine o_putF W22 (w100 hw) Via.refl c21 c20 (Or.inl (w101 hw)) (w62 hw) (ty := .int) (v' := (.int 9)) (by decide) rfl rfl g_a1 (Or.inl (List.mem_of_getElem? (i := 1) rfl)) (fun _ _ => trivial) (pc' := 43) (hb hy d15_40) rfl ?_
  intro T23 h23 lo23 W23 R23
  have F23 := c21.same R23
  refine o_aloadN W23 (pc' := 44) (hb hy d15_43) rfl rfl rfl ?_
  have c24 := (c20.wr R23)
  have c25 := ((c13.keep K19 (ninS (Exa.neArv c17 c16 (w62 hw)) nin0)).other R23 (Or.inr (slot_ne (Or.inl (w76 hw)) (Or.inl (w101 hw)) (by decide) (t := (.array .byte)) (t' := .int) (by decide) (by decide))))
  have c26 := ((c11.keep K19 (ninS (Exa.neArv c17 c16 (w62 hw)) nin0)).other R23 (Or.inr (slot_ne (Or.inl (w78 hw)) (Or.inl (w101 hw)) (by decide) (t := .byte) (t' := .int) (by decide) (by decide))))
  have c27 := (P19_0.other R23 (Ne.symm (Exa.neArv c20 P19_0 (w62 hw))))
  exact o_retA W23 hlk (v := (.ref a1)) hret rfl rfl (hb hy d15_44) (by decide) (by decide) ⟨F23, c25, c27, c26, rfl⟩
theorem rm14 (l : Launch) (Z : State) (a0 : Array Value) (hw : ∀ d ∈ tables_1, d.before a0 Z = true) (gCS : Int32) (a1 a2 a3 : Addr) (k_a3 : ClassId) (a4 : Addr) (k_a4 : ClassId) (h0 : Heap) (O0 : Old Z Z.heap.size h0) (E_a2 : Exa Z h0 a2 "java/lang/String") (F_a2_value : Fld Z h0 a2 "java/lang/String" "value" "[B" (.ref a3)) (V_a3 : Arv Z h0 a3 k_a3 .byte (9 : Int32) [(.int (StrChars.lo8 (105 : Int32))), (.int (StrChars.lo8 (110 : Int32))), (.int (StrChars.lo8 (118 : Int32))), (.int (StrChars.lo8 (97 : Int32))), (.int (StrChars.lo8 (108 : Int32))), (.int (StrChars.lo8 (105 : Int32))), (.int (StrChars.lo8 (100 : Int32))), (.int (StrChars.lo8 (58 : Int32))), (.int (StrChars.lo8 (32 : Int32)))] (.int 0)) (SgCS : Sta Z Z.heap "java/lang/String" "COMPACT_STRINGS" "Z" (.int gCS)) (NgCS : ¬ (gCS = (0 : Int32))) (F_a2_coder : Fld Z h0 a2 "java/lang/String" "coder" "B" (.int 0)) (F_a1_count : Fld Z h0 a1 "java/lang/AbstractStringBuilder" "count" "I" (.int 0)) (E_a1 : Exa Z h0 a1 "java/lang/StringBuilder") (F_a1_value : Fld Z h0 a1 "java/lang/AbstractStringBuilder" "value" "[B" (.ref a4)) (V_a4 : Arv Z h0 a4 k_a4 .byte (16 : Int32) [(.int 0), (.int 0), (.int 0), (.int 0), (.int 0), (.int 0), (.int 0), (.int 0), (.int 0), (.int 0), (.int 0), (.int 0), (.int 0), (.int 0), (.int 0), (.int 0)] (.int 0)) (F_a1_coder : Fld Z h0 a1 "java/lang/AbstractStringBuilder" "coder" "B" (.int 0)) (g_a4 : Z.heap.size ≤ a4) (g_a1 : Z.heap.size ≤ a1) :
    CtrN l Z (⟨"java/lang/StringBuilder", "append", "(Ljava/lang/String;)Ljava/lang/StringBuilder;"⟩ : MethodName) jdk_67_method_7_code 2 (some (.object "java/lang/StringBuilder")) [] (⟨4, 0, 0, 70⟩ : Room) #[(.ref a1), (.ref a2)] h0 [a1, a4] (fun v h => Fld Z h a1 "java/lang/AbstractStringBuilder" "count" "I" (.int 9) ∧ Fld Z h a1 "java/lang/AbstractStringBuilder" "value" "[B" (.ref a4) ∧ Arv Z h a4 k_a4 .byte (16 : Int32) [(.int (StrChars.lo8 (105 : Int32))), (.int (StrChars.lo8 (110 : Int32))), (.int (StrChars.lo8 (118 : Int32))), (.int (StrChars.lo8 (97 : Int32))), (.int (StrChars.lo8 (108 : Int32))), (.int (StrChars.lo8 (105 : Int32))), (.int (StrChars.lo8 (100 : Int32))), (.int (StrChars.lo8 (58 : Int32))), (.int (StrChars.lo8 (32 : Int32))), (.int 0), (.int 0), (.int 0), (.int 0), (.int 0), (.int 0), (.int 0)] (.int 0) ∧ Fld Z h a1 "java/lang/AbstractStringBuilder" "coder" "B" (.int 0) ∧ v = some (.ref a1)) := by
  refine CtrN.intro (L0 := #[.val (.ref a1), .val (.ref a2)]) (plainFor_of_name pn3) O0 (own_entry rfl) ?_
  intro p e s m below meth c T0 hy hml hret hlk hnm W0
  refine o_aloadN W0 (pc' := 1) (hb hy d14_0) rfl rfl rfl ?_
  refine o_aloadN W0 (pc' := 2) (hb hy d14_1) rfl rfl rfl ?_
  refine o_super W0 (y := (⟨"java/lang/AbstractStringBuilder", "append", "(Ljava/lang/String;)Ljava/lang/AbstractStringBuilder;"⟩ : MethodName)) (by decide) (w85 hw) (w86 hw) (own_sameN (y := (⟨"java/lang/AbstractStringBuilder", "append", "(Ljava/lang/String;)Ljava/lang/AbstractStringBuilder;"⟩ : MethodName)) (y2 := (⟨"java/lang/AbstractStringBuilder", "ensureCapacityInternal", "(I)V"⟩ : MethodName)) (by decide) (w86 hw) rfl (w103 hw) (w105 hw)) (w87 hw) (w89 hw) (Ins.self E_a1) (argsL := [(.ref a2)]) (CtrN.back (Wd := 0) W0 (rm13 l Z a0 hw gCS a1 a2 a3 k_a3 a4 k_a4 h0 W0.old E_a2 F_a2_value V_a3 SgCS NgCS F_a2_coder F_a1_count E_a1 F_a1_value V_a4 F_a1_coder g_a4 g_a1) (w89 hw) (w71 hw) (by decide) (by decide)) (by rw [hml]; rfl) (lenOf pd11 rfl) (S := []) rfl (by exact Nat.le_of_eq rfl) (pc' := 5) (hb hy d14_2) rfl (cells' := 0) (slots' := 0) rfl rfl (by decide) (by decide) (wy := [a4, a1]) (fun _ _ _ q => ⟨q.1, q.2.1⟩) (allS ⟨g_a4, (Or.inl (List.mem_of_getElem? (i := 1) rfl))⟩ (allS ⟨g_a1, (Or.inl (List.mem_of_getElem? (i := 0) rfl))⟩ all0)) (fun _ _ => trivial) ?_
  intro v1 T1 h1 lo1 W1 K1 q1
  obtain ⟨P1_0, P1_1, P1_2, P1_3, rfl⟩ := q1.2.2
  show Gl _ _ _ _ _ _ _ _ [(.ref a1)]
  refine o_pop W1 (pc' := 6) (hb hy d14_5) rfl rfl ?_
  refine o_aloadN W1 (pc' := 7) (hb hy d14_6) rfl rfl rfl ?_
  have c2 := (E_a1.keep K1)
  exact o_retA W1 hlk (v := (.ref a1)) hret rfl rfl (hb hy d14_7) (by decide) (by decide) ⟨P1_0, P1_1, P1_2, P1_3, rfl⟩
theorem rm15 (l : Launch) (Z : State) (a0 : Array Value) (hw : ∀ d ∈ tables_1, d.before a0 Z = true) (gCS : Int32) (a1 a2 : Addr) (k_a2 : ClassId) (x1 x2 x3 : Int32) (h0 : Heap) (O0 : Old Z Z.heap.size h0) (F_a1_value : Fld Z h0 a1 "java/lang/String" "value" "[B" (.ref a2)) (V_a2 : Arv Z h0 a2 k_a2 .byte (3 : Int32) [(.int (StrChars.lo8 x1)), (.int (StrChars.lo8 x2)), (.int (StrChars.lo8 x3))] (.int 0)) (E_a1 : Exa Z h0 a1 "java/lang/String") (SgCS : Sta Z Z.heap "java/lang/String" "COMPACT_STRINGS" "Z" (.int gCS)) (NgCS : ¬ (gCS = (0 : Int32))) (F_a1_coder : Fld Z h0 a1 "java/lang/String" "coder" "B" (.int 0)) :
    CtrN l Z (⟨"java/lang/String", "length", "()I"⟩ : MethodName) jdk_42_method_54_code 1 (some .int) [] (⟨1, 0, 0, 13⟩ : Room) #[(.ref a1)] h0 [] (fun v h => v = some (.int 3)) := by
  refine CtrN.intro (L0 := #[.val (.ref a1)]) (plainFor_of_name pn4) O0 (own_entry rfl) ?_
  intro p e s m below meth c T0 hy hml hret hlk hnm W0
  refine o_aloadN W0 (pc' := 1) (hb hy d16_0) rfl rfl rfl ?_
  refine o_getF W0 (w20 hw) Via.refl F_a1_value (pc' := 4) (hb hy d16_1) rfl ?_
  intro T1 W1
  refine o_len W1 V_a2 (pc' := 5) (hb hy d16_4) rfl ?_
  refine o_aloadN W1 (pc' := 6) (hb hy d16_5) rfl rfl rfl ?_
  refine o_virtual W1 (y := (⟨"java/lang/String", "coder", "()B"⟩ : MethodName)) (z := (⟨"java/lang/String", "coder", "()B"⟩ : MethodName)) (w95 hw) (w96 hw) (o_nf W1 rfl (w98 hw)) (w98 hw) (w97 hw) (by decide) E_a1 (argsL := []) (CtrN.back (Wd := 1) W1 (rm7 l Z a0 hw gCS a1 h0 W1.old SgCS NgCS F_a1_coder) (w99 hw) (w3 hw) (by decide) (by decide)) (by rw [hml]; rfl) (lenOf pd7 rfl) (S := [(.int 3)]) rfl (by exact Nat.le_of_eq rfl) (pc' := 9) (hb hy d16_6) rfl (cells' := 0) (slots' := 0) rfl rfl (by decide) (by decide) (wy := []) (fun _ _ _ q => ⟨q.1, q.2.1⟩) all0 (fun _ _ => trivial) ?_
  intro v2 T2 h2 lo2 W2 K2 q2
  obtain rfl := q2.2.2
  show Gl _ _ _ _ _ _ _ _ [(.int 0), (.int 3)]
  refine o_ishr W2 (v := 3) (pc' := 10) (hb hy d16_9) (by decide) rfl ?_
  exact o_retI W2 hlk hret (hb hy d16_10) (by decide) (by decide) rfl
theorem rm16 (l : Launch) (Z : State) (a0 : Array Value) (hw : ∀ d ∈ tables_1, d.before a0 Z = true) (a1 a2 : Addr) (k_a2 : ClassId) (x1 x2 x3 x4 x5 x6 x7 x8 : Int32) (h0 : Heap) (O0 : Old Z Z.heap.size h0) (F_a1_value : Fld Z h0 a1 "java/lang/AbstractStringBuilder" "value" "[B" (.ref a2)) (V_a2 : Arv Z h0 a2 k_a2 .byte (16 : Int32) [(.int x1), (.int x2), (.int x3), (.int x4), (.int x5), (.int x1), (.int x6), (.int x7), (.int x8), (.int 0), (.int 0), (.int 0), (.int 0), (.int 0), (.int 0), (.int 0)] (.int 0)) (F_a1_coder : Fld Z h0 a1 "java/lang/AbstractStringBuilder" "coder" "B" (.int 0)) :
    CtrN l Z (⟨"java/lang/AbstractStringBuilder", "ensureCapacityInternal", "(I)V"⟩ : MethodName) jdk_68_method_9_code 3 none [] (⟨0, 0, 0, 0⟩ : Room) #[(.ref a1), (.int 12)] h0 [] (fun v h => v = none) := by
  refine CtrN.intro (L0 := #[.val (.ref a1), .val (.int 12), .unset]) (plainFor_of_name pn2) O0 (own_entry rfl) ?_
  intro p e s m below meth c T0 hy hml hret hlk hnm W0
  refine o_aloadN W0 (pc' := 1) (hb hy d18_0) rfl rfl rfl ?_
  refine o_getF W0 (w75 hw) Via.refl F_a1_value (pc' := 4) (hb hy d18_1) rfl ?_
  intro T1 W1
  refine o_len W1 V_a2 (pc' := 5) (hb hy d18_4) rfl ?_
  refine o_aloadN W1 (pc' := 6) (hb hy d18_5) rfl rfl rfl ?_
  refine o_getF W1 (w77 hw) Via.refl F_a1_coder (pc' := 9) (hb hy d18_6) rfl ?_
  intro T2 W2
  refine o_ishr W2 (v := 16) (pc' := 10) (hb hy d18_9) (by decide) rfl ?_
  refine o_istoreN W2 (L' := #[.val (.ref a1), .val (.int 12), .val (.int 16)]) (pc' := 11) (hb hy d18_10) rfl rfl ?_
  refine o_iloadN W2 (pc' := 12) (hb hy d18_11) rfl rfl ?_
  refine o_iloadN W2 (pc' := 13) (hb hy d18_12) rfl rfl ?_
  refine o_isub W2 (v := (-4 : Int32)) (pc' := 14) (hb hy d18_13) (by decide) rfl ?_
  refine o_ifY W2 (pc' := 38) (hb hy d18_14) (XT.i0_le_t (by decide)) (by decide) rfl ?_
  exact o_ret0 W2 hlk hret (hb hy d18_38) (by decide) (by decide) rfl
theorem rm17 (l : Launch) (Z : State) (a0 : Array Value) (hw : ∀ d ∈ tables_1, d.before a0 Z = true) (gCS : Int32) (a1 a2 a3 : Addr) (k_a3 : ClassId) (x1 x2 x3 : Int32) (k_a2 : ClassId) (x4 x5 x6 x7 x8 x9 x10 x11 : Int32) (h0 : Heap) (O0 : Old Z Z.heap.size h0) (E_a1 : Exa Z h0 a1 "java/lang/String") (SgCS : Sta Z Z.heap "java/lang/String" "COMPACT_STRINGS" "Z" (.int gCS)) (NgCS : ¬ (gCS = (0 : Int32))) (F_a1_coder : Fld Z h0 a1 "java/lang/String" "coder" "B" (.int 0)) (F_a1_value : Fld Z h0 a1 "java/lang/String" "value" "[B" (.ref a3)) (V_a3 : Arv Z h0 a3 k_a3 .byte (3 : Int32) [(.int (StrChars.lo8 x1)), (.int (StrChars.lo8 x2)), (.int (StrChars.lo8 x3))] (.int 0)) (V_a2 : Arv Z h0 a2 k_a2 .byte (16 : Int32) [(.int x4), (.int x5), (.int x6), (.int x7), (.int x8), (.int x4), (.int x9), (.int x10), (.int x11), (.int 0), (.int 0), (.int 0), (.int 0), (.int 0), (.int 0), (.int 0)] (.int 0)) (g_a2 : Z.heap.size ≤ a2) :
    CtrN l Z (⟨"java/lang/String", "getBytes", "([BIB)V"⟩ : MethodName) jdk_42_method_147_code 4 none [] (⟨1, 0, 0, 27⟩ : Room) #[(.ref a1), (.ref a2), (.int 9), (.int 0)] h0 [a2] (fun v h => Arv Z h a2 k_a2 .byte (16 : Int32) [(.int x4), (.int x5), (.int x6), (.int x7), (.int x8), (.int x4), (.int x9), (.int x10), (.int x11), (.int (StrChars.lo8 x1)), (.int (StrChars.lo8 x2)), (.int (StrChars.lo8 x3)), (.int 0), (.int 0), (.int 0), (.int 0)] (.int 0) ∧ v = none) := by
  refine CtrN.intro (L0 := #[.val (.ref a1), .val (.ref a2), .val (.int 9), .val (.int 0)]) (plainFor_of_name pn4) O0 (own_entry rfl) ?_
  intro p e s m below meth c T0 hy hml hret hlk hnm W0
  refine o_aloadN W0 (pc' := 1) (hb hy d21_0) rfl rfl rfl ?_
  refine o_virtual W0 (y := (⟨"java/lang/String", "coder", "()B"⟩ : MethodName)) (z := (⟨"java/lang/String", "coder", "()B"⟩ : MethodName)) (w95 hw) (w96 hw) (o_nf W0 rfl (w98 hw)) (w98 hw) (w97 hw) (by decide) E_a1 (argsL := []) (CtrN.back (Wd := 0) W0 (rm7 l Z a0 hw gCS a1 h0 W0.old SgCS NgCS F_a1_coder) (w99 hw) (w3 hw) (by decide) (by decide)) (by rw [hml]; rfl) (lenOf pd7 rfl) (S := []) rfl (by exact Nat.le_of_eq rfl) (pc' := 4) (hb hy d21_1) rfl (cells' := 0) (slots' := 0) rfl rfl (by decide) (by decide) (wy := []) (fun _ _ _ q => ⟨q.1, q.2.1⟩) all0 (fun _ _ => trivial) ?_
  intro v1 T1 h1 lo1 W1 K1 q1
  obtain rfl := q1.2.2
  show Gl _ _ _ _ _ _ _ _ [(.int 0)]
  refine o_iloadN W1 (pc' := 5) (hb hy d21_4) rfl rfl ?_
  refine o_icmpN W1 (pc' := 8) (hb hy d21_5) (XT.ii_ne_f (by decide)) rfl ?_
  refine o_aloadN W1 (pc' := 9) (hb hy d21_8) rfl rfl rfl ?_
  have c2 := (F_a1_value.keep K1 nin0)
  refine o_getF W1 (w20 hw) Via.refl c2 (pc' := 12) (hb hy d21_9) rfl ?_
  intro T3 W3
  refine o_iconst W3 (v := 0) (pc' := 13) (hb hy d21_12) rfl rfl ?_
  refine o_aloadN W3 (pc' := 14) (hb hy d21_13) rfl rfl rfl ?_
  refine o_iloadN W3 (pc' := 15) (hb hy d21_14) rfl rfl ?_
  refine o_iloadN W3 (pc' := 16) (hb hy d21_15) rfl rfl ?_
  refine o_ishl W3 (v := 9) (pc' := 17) (hb hy d21_16) (by decide) rfl ?_
  refine o_aloadN W3 (pc' := 18) (hb hy d21_17) rfl rfl rfl ?_
  refine o_getF W3 (w20 hw) Via.refl c2 (pc' := 21) (hb hy d21_18) rfl ?_
  intro T4 W4
  have c5 := (V_a3.keep K1 nin0)
  refine o_len W4 c5 (pc' := 22) (hb hy d21_21) rfl ?_
  have c6 := (V_a2.keep K1 nin0)
  refine o_copy W4 (w123 hw) (w126 hw) (w124 hw) (w125 hw) c5 c6 (us := [(.int (StrChars.lo8 x1)), (.int (StrChars.lo8 x2)), (.int (StrChars.lo8 x3))]) (Or.inl ⟨rfl, rfl⟩) (by decide) (by decide) (by decide) (by decide) (by decide) rfl (Nat.le_of_ble_eq_true rfl) (vd' := [(.int x4), (.int x5), (.int x6), (.int x7), (.int x8), (.int x4), (.int x9), (.int x10), (.int x11), (.int (StrChars.lo8 x1)), (.int (StrChars.lo8 x2)), (.int (StrChars.lo8 x3)), (.int 0), (.int 0), (.int 0), (.int 0)]) rfl g_a2 (Or.inl (List.mem_of_getElem? (i := 0) rfl)) (fun _ _ => trivial) (by rw [hml]; rfl) (pc' := 25) (hb hy d21_22) rfl (by decide) 0 (by exact Nat.le_of_eq rfl) (by decide) ?_
  intro T7 h7 lo7 W7 K7 V7
  refine o_goto W7 (pc' := 43) (hb hy d21_25) (by decide) rfl ?_
  exact o_ret0 W7 hlk hret (hb hy d21_43) (by decide) (by decide) ⟨V7, rfl⟩
theorem rm18 (l : Launch) (Z : State) (a0 : Array Value) (hw : ∀ d ∈ tables_1, d.before a0 Z = true) (gCS : Int32) (a1 a2 a3 a4 : Addr) (k_a4 : ClassId) (x1 x2 x3 : Int32) (k_a3 : ClassId) (x4 x5 x6 x7 x8 x9 x10 x11 : Int32) (h0 : Heap) (O0 : Old Z Z.heap.size h0) (E_a1 : Exa Z h0 a1 "java/lang/StringBuilder") (SgCS : Sta Z Z.heap "java/lang/String" "COMPACT_STRINGS" "Z" (.int gCS)) (NgCS : ¬ (gCS = (0 : Int32))) (F_a1_coder : Fld Z h0 a1 "java/lang/AbstractStringBuilder" "coder" "B" (.int 0)) (E_a2 : Exa Z h0 a2 "java/lang/String") (F_a2_coder : Fld Z h0 a2 "java/lang/String" "coder" "B" (.int 0)) (F_a1_value : Fld Z h0 a1 "java/lang/AbstractStringBuilder" "value" "[B" (.ref a3)) (F_a2_value : Fld Z h0 a2 "java/lang/String" "value" "[B" (.ref a4)) (V_a4 : Arv Z h0 a4 k_a4 .byte (3 : Int32) [(.int (StrChars.lo8 x1)), (.int (StrChars.lo8 x2)), (.int (StrChars.lo8 x3))] (.int 0)) (V_a3 : Arv Z h0 a3 k_a3 .byte (16 : Int32) [(.int x4), (.int x5), (.int x6), (.int x7), (.int x8), (.int x4), (.int x9), (.int x10), (.int x11), (.int 0), (.int 0), (.int 0), (.int 0), (.int 0), (.int 0), (.int 0)] (.int 0)) (g_a3 : Z.heap.size ≤ a3) :
    CtrN l Z (⟨"java/lang/AbstractStringBuilder", "putStringAt", "(ILjava/lang/String;)V"⟩ : MethodName) jdk_68_method_73_code 3 none [] (⟨2, 0, 0, 42⟩ : Room) #[(.ref a1), (.int 9), (.ref a2)] h0 [a3] (fun v h => Arv Z h a3 k_a3 .byte (16 : Int32) [(.int x4), (.int x5), (.int x6), (.int x7), (.int x8), (.int x4), (.int x9), (.int x10), (.int x11), (.int (StrChars.lo8 x1)), (.int (StrChars.lo8 x2)), (.int (StrChars.lo8 x3)), (.int 0), (.int 0), (.int 0), (.int 0)] (.int 0) ∧ v = none) := by
  refine CtrN.intro (L0 := #[.val (.ref a1), .val (.int 9), .val (.ref a2)]) (plainFor_of_name pn2) O0 (own_entry rfl) ?_
  intro p e s m below meth c T0 hy hml hret hlk hnm W0
  refine o_aloadN W0 (pc' := 1) (hb hy d19_0) rfl rfl rfl ?_
  refine o_aloadN W0 (pc' := 2) (hb hy d19_1) rfl rfl rfl ?_
  refine o_private W0 (y := (⟨"java/lang/AbstractStringBuilder", "inflateIfNeededFor", "(Ljava/lang/String;)V"⟩ : MethodName)) (w112 hw) (w113 hw) (w115 hw) (w114 hw) (w116 hw) (by decide) E_a1 (argsL := [(.ref a2)]) (CtrN.back (Wd := 0) W0 (rm10 l Z a0 hw gCS a1 a2 h0 W0.old SgCS NgCS F_a1_coder E_a2 F_a2_coder) (w116 hw) (w71 hw) (by decide) (by decide)) (by rw [hml]; rfl) (lenOf pd2 rfl) (S := []) rfl (by exact Nat.le_of_eq rfl) (pc' := 5) (hb hy d19_2) rfl (cells' := 0) (slots' := 0) rfl rfl (by decide) (by decide) (wy := []) (fun _ _ _ q => ⟨q.1, q.2.1⟩) all0 (fun _ _ => trivial) ?_
  intro v1 T1 h1 lo1 W1 K1 q1
  obtain rfl := q1.2.2
  show Gl _ _ _ _ _ _ _ _ []
  refine o_aloadN W1 (pc' := 6) (hb hy d19_5) rfl rfl rfl ?_
  refine o_aloadN W1 (pc' := 7) (hb hy d19_6) rfl rfl rfl ?_
  have c2 := (F_a1_value.keep K1 nin0)
  refine o_getF W1 (w75 hw) Via.refl c2 (pc' := 10) (hb hy d19_7) rfl ?_
  intro T3 W3
  refine o_iloadN W3 (pc' := 11) (hb hy d19_10) rfl rfl ?_
  refine o_aloadN W3 (pc' := 12) (hb hy d19_11) rfl rfl rfl ?_
  have c4 := (F_a1_coder.keep K1 nin0)
  refine o_getF W3 (w77 hw) Via.refl c4 (pc' := 15) (hb hy d19_12) rfl ?_
  intro T5 W5
  have c6 := (F_a2_coder.keep K1 nin0)
  have c7 := (F_a2_value.keep K1 nin0)
  have c8 := (V_a4.keep K1 nin0)
  have c9 := (V_a3.keep K1 nin0)
  have c10 := (E_a2.keep K1)
  refine o_virtual W5 (y := (⟨"java/lang/String", "getBytes", "([BIB)V"⟩ : MethodName)) (z := (⟨"java/lang/String", "getBytes", "([BIB)V"⟩ : MethodName)) (w118 hw) (w119 hw) (o_nf W5 rfl (w121 hw)) (w121 hw) (w120 hw) (by decide) c10 (argsL := [(.ref a3), (.int 9), (.int 0)]) (CtrN.back (Wd := 0) W5 (rm17 l Z a0 hw gCS a2 a3 a4 k_a4 x1 x2 x3 k_a3 x4 x5 x6 x7 x8 x9 x10 x11 h1 W5.old c10 SgCS NgCS c6 c7 c8 c9 g_a3) (w122 hw) (w3 hw) (by decide) (by decide)) (by rw [hml]; rfl) (lenOf pd9 rfl) (S := []) rfl (by exact Nat.le_of_eq rfl) (pc' := 18) (hb hy d19_15) rfl (cells' := 0) (slots' := 0) rfl rfl (by decide) (by decide) (wy := [a3]) (fun _ _ _ q => ⟨q.1, q.2.1⟩) (allS ⟨g_a3, (Or.inl (List.mem_of_getElem? (i := 0) rfl))⟩ all0) (fun _ _ => trivial) ?_
  intro v11 T11 h11 lo11 W11 K11 q11
  obtain ⟨P11_0, rfl⟩ := q11.2.2
  show Gl _ _ _ _ _ _ _ _ []
  exact o_ret0 W11 hlk hret (hb hy d19_18) (by decide) (by decide) ⟨P11_0, rfl⟩
theorem rm19 (l : Launch) (Z : State) (a0 : Array Value) (hw : ∀ d ∈ tables_1, d.before a0 Z = true) (gCS : Int32) (a1 a2 a3 : Addr) (k_a3 : ClassId) (x1 x2 x3 : Int32) (a4 : Addr) (k_a4 : ClassId) (x4 x5 x6 x7 x8 x9 x10 x11 : Int32) (h0 : Heap) (O0 : Old Z Z.heap.size h0) (E_a2 : Exa Z h0 a2 "java/lang/String") (F_a2_value : Fld Z h0 a2 "java/lang/String" "value" "[B" (.ref a3)) (V_a3 : Arv Z h0 a3 k_a3 .byte (3 : Int32) [(.int (StrChars.lo8 x1)), (.int (StrChars.lo8 x2)), (.int (StrChars.lo8 x3))] (.int 0)) (SgCS : Sta Z Z.heap "java/lang/String" "COMPACT_STRINGS" "Z" (.int gCS)) (NgCS : ¬ (gCS = (0 : Int32))) (F_a2_coder : Fld Z h0 a2 "java/lang/String" "coder" "B" (.int 0)) (F_a1_count : Fld Z h0 a1 "java/lang/AbstractStringBuilder" "count" "I" (.int 9)) (E_a1 : Exa Z h0 a1 "java/lang/StringBuilder") (F_a1_value : Fld Z h0 a1 "java/lang/AbstractStringBuilder" "value" "[B" (.ref a4)) (V_a4 : Arv Z h0 a4 k_a4 .byte (16 : Int32) [(.int x4), (.int x5), (.int x6), (.int x7), (.int x8), (.int x4), (.int x9), (.int x10), (.int x11), (.int 0), (.int 0), (.int 0), (.int 0), (.int 0), (.int 0), (.int 0)] (.int 0)) (F_a1_coder : Fld Z h0 a1 "java/lang/AbstractStringBuilder" "coder" "B" (.int 0)) (g_a4 : Z.heap.size ≤ a4) (g_a1 : Z.heap.size ≤ a1) :
    CtrN l Z (⟨"java/lang/AbstractStringBuilder", "append", "(Ljava/lang/String;)Ljava/lang/AbstractStringBuilder;"⟩ : MethodName) jdk_68_method_22_code 3 (some (.object "java/lang/AbstractStringBuilder")) [] (⟨3, 0, 0, 56⟩ : Room) #[(.ref a1), (.ref a2)] h0 [a4, a1] (fun v h => Fld Z h a1 "java/lang/AbstractStringBuilder" "count" "I" (.int 12) ∧ Fld Z h a1 "java/lang/AbstractStringBuilder" "value" "[B" (.ref a4) ∧ Arv Z h a4 k_a4 .byte (16 : Int32) [(.int x4), (.int x5), (.int x6), (.int x7), (.int x8), (.int x4), (.int x9), (.int x10), (.int x11), (.int (StrChars.lo8 x1)), (.int (StrChars.lo8 x2)), (.int (StrChars.lo8 x3)), (.int 0), (.int 0), (.int 0), (.int 0)] (.int 0) ∧ Fld Z h a1 "java/lang/AbstractStringBuilder" "coder" "B" (.int 0) ∧ v = some (.ref a1)) := by
  refine CtrN.intro (L0 := #[.val (.ref a1), .val (.ref a2), .unset]) (plainFor_of_name pn2) O0 (own_entry rfl) ?_
  intro p e s m below meth c T0 hy hml hret hlk hnm W0
  refine o_aloadN W0 (pc' := 1) (hb hy d15_0) rfl rfl rfl ?_
  refine o_ifnonnullY W0 (pc' := 9) (hb hy d15_1) (by decide) rfl ?_
  refine o_aloadN W0 (pc' := 10) (hb hy d15_9) rfl rfl rfl ?_
  refine o_virtual W0 (y := (⟨"java/lang/String", "length", "()I"⟩ : MethodName)) (z := (⟨"java/lang/String", "length", "()I"⟩ : MethodName)) (w90 hw) (w91 hw) (o_nf W0 rfl (w93 hw)) (w93 hw) (w92 hw) (by decide) E_a2 (argsL := []) (CtrN.back (Wd := 0) W0 (rm15 l Z a0 hw gCS a2 a3 k_a3 x1 x2 x3 h0 W0.old F_a2_value V_a3 E_a2 SgCS NgCS F_a2_coder) (w94 hw) (w3 hw) (by decide) (by decide)) (by rw [hml]; rfl) (lenOf pd8 rfl) (S := []) rfl (by exact Nat.le_of_eq rfl) (pc' := 13) (hb hy d15_10) rfl (cells' := 0) (slots' := 0) rfl rfl (by decide) (by decide) (wy := []) (fun _ _ _ q => ⟨q.1, q.2.1⟩) all0 (fun _ _ => trivial) ?_
  intro v1 T1 h1 lo1 W1 K1 q1
  obtain rfl := q1.2.2
  show Gl _ _ _ _ _ _ _ _ [(.int 3)]
  refine o_istoreN W1 (L' := #[.val (.ref a1), .val (.ref a2), .val (.int 3)]) (pc' := 14) (hb hy d15_13) rfl rfl ?_
  refine o_aloadN W1 (pc' := 15) (hb hy d15_14) rfl rfl rfl ?_
  refine o_aloadN W1 (pc' := 16) (hb hy d15_15) rfl rfl rfl ?_
  have c2 := (F_a1_count.keep K1 nin0)
  refine o_getF W1 (w100 hw) Via.refl c2 (pc' := 19) (hb hy d15_16) rfl ?_
  intro T3 W3
  refine o_iloadN W3 (pc' := 20) (hb hy d15_19) rfl rfl ?_
  refine o_iadd W3 (v := 12) (pc' := 21) (hb hy d15_20) (by decide) rfl ?_
  have c4 := (E_a1.keep K1)
  have c5 := (F_a1_value.keep K1 nin0)
  have c6 := (V_a4.keep K1 nin0)
  have c7 := (F_a1_coder.keep K1 nin0)
  refine o_private W3 (y := (⟨"java/lang/AbstractStringBuilder", "ensureCapacityInternal", "(I)V"⟩ : MethodName)) (w102 hw) (w103 hw) (w105 hw) (w104 hw) (w106 hw) (by decide) c4 (argsL := [(.int 12)]) (CtrN.back (Wd := 0) W3 (rm16 l Z a0 hw a1 a4 k_a4 x4 x5 x6 x7 x8 x9 x10 x11 h1 W3.old c5 c6 c7) (w106 hw) (w71 hw) (by decide) (by decide)) (by rw [hml]; rfl) (lenOf pd5 rfl) (S := []) rfl (by exact Nat.le_of_eq rfl) (pc' := 24) (hb hy d15_21) rfl (cells' := 0) (slots' := 0) rfl rfl (by decide) (by decide) (wy := []) (fun _ _ _ q => ⟨q.1, q.2.1⟩) all0 (fun _ _ => trivial) ?_
  intro v8 T8 h8 lo8 W8 K8 q8
  obtain rfl := q8.2.2
  show Gl _ _ _ _ _ _ _ _ []
  refine o_aloadN W8 (pc' := 25) (hb hy d15_24) rfl rfl rfl ?_
  refine o_aloadN W8 (pc' := 26) (hb hy d15_25) rfl rfl rfl ?_
  have c9 := (c2.keep K8 nin0)
  refine o_getF W8 (w100 hw) Via.refl c9 (pc' := 29) (hb hy d15_26) rfl ?_
  intro T10 W10
  refine o_aloadN W10 (pc' := 30) (hb hy d15_29) rfl rfl rfl ?_
  have c11 := (c7.keep K8 nin0)
  have c12 := ((F_a2_coder.keep K1 nin0).keep K8 nin0)
  have c13 := (c5.keep K8 nin0)
  have c14 := ((F_a2_value.keep K1 nin0).keep K8 nin0)
  have c15 := ((V_a3.keep K1 nin0).keep K8 nin0)
  have c16 := (c6.keep K8 nin0)
  have c17 := (c4.keep K8)
  have c18 := ((E_a2.keep K1).keep K8)
  refine o_private W10 (y := (⟨"java/lang/AbstractStringBuilder", "putStringAt", "(ILjava/lang/String;)V"⟩ : MethodName)) (w107 hw) (w108 hw) (w110 hw) (w109 hw) (w111 hw) (by decide) c17 (argsL := [(.int 9), (.ref a2)]) (CtrN.back (Wd := 0) W10 (rm18 l Z a0 hw gCS a1 a2 a4 a3 k_a3 x1 x2 x3 k_a4 x4 x5 x6 x7 x8 x9 x10 x11 h8 W10.old c17 SgCS NgCS c11 c18 c12 c13 c14 c15 c16 g_a4) (w111 hw) (w71 hw) (by decide) (by decide)) (by rw [hml]; rfl) (lenOf pd10 rfl) (S := []) rfl (by exact Nat.le_of_eq rfl) (pc' := 33) (hb hy d15_30) rfl (cells' := 0) (slots' := 0) rfl rfl (by decide) (by decide) (wy := [a4]) (fun _ _ _ q => ⟨q.1, q.2.1⟩) (allS ⟨g_a4, (Or.inl (List.mem_of_getElem? (i := 0) rfl))⟩ all0) (fun _ _ => trivial) ?_
  intro v19 T19 h19 lo19 W19 K19 q19
  obtain ⟨P19_0, rfl⟩ := q19.2.2
  show Gl _ _ _ _ _ _ _ _ []
  refine o_aloadN W19 (pc' := 34) (hb hy d15_33) rfl rfl rfl ?_
  refine o_dup W19 (pc' := 35) (hb hy d15_34) rfl rfl ?_
  have c20 := (c17.keep K19)
  have c21 := (c9.keep K19 (ninS (Exa.neArv c17 c16 (w62 hw)) nin0))
  refine o_getF W19 (w100 hw) Via.refl c21 (pc' := 38) (hb hy d15_35) rfl ?_
  intro T22 W22
  refine o_iloadN W22 (pc' := 39) (hb hy d15_38) rfl rfl ?_
  refine o_iadd W22 (v := 12) (pc' := 40) (hb hy d15_39) (by decide) rfl ?_
  refine o_putF W22 (w100 hw) Via.refl c21 c20 (Or.inl (w101 hw)) (w62 hw) (ty := .int) (v' := (.int 12)) (by decide) rfl rfl g_a1 (Or.inl (List.mem_of_getElem? (i := 1) rfl)) (fun _ _ => trivial) (pc' := 43) (hb hy d15_40) rfl ?_
  intro T23 h23 lo23 W23 R23
  have F23 := c21.same R23
  refine o_aloadN W23 (pc' := 44) (hb hy d15_43) rfl rfl rfl ?_
  have c24 := (c20.wr R23)
  have c25 := ((c13.keep K19 (ninS (Exa.neArv c17 c16 (w62 hw)) nin0)).other R23 (Or.inr (slot_ne (Or.inl (w76 hw)) (Or.inl (w101 hw)) (by decide) (t := (.array .byte)) (t' := .int) (by decide) (by decide))))
  have c26 := ((c11.keep K19 (ninS (Exa.neArv c17 c16 (w62 hw)) nin0)).other R23 (Or.inr (slot_ne (Or.inl (w78 hw)) (Or.inl (w101 hw)) (by decide) (t := .byte) (t' := .int) (by decide) (by decide))))
  have c27 := (P19_0.other R23 (Ne.symm (Exa.neArv c20 P19_0 (w62 hw))))
  exact o_retA W23 hlk (v := (.ref a1)) hret rfl rfl (hb hy d15_44) (by decide) (by decide) ⟨F23, c25, c27, c26, rfl⟩
theorem rm20 (l : Launch) (Z : State) (a0 : Array Value) (hw : ∀ d ∈ tables_1, d.before a0 Z = true) (gCS : Int32) (a1 a2 a3 : Addr) (k_a3 : ClassId) (x1 x2 x3 : Int32) (a4 : Addr) (k_a4 : ClassId) (x4 x5 x6 x7 x8 x9 x10 x11 : Int32) (h0 : Heap) (O0 : Old Z Z.heap.size h0) (E_a2 : Exa Z h0 a2 "java/lang/String") (F_a2_value : Fld Z h0 a2 "java/lang/String" "value" "[B" (.ref a3)) (V_a3 : Arv Z h0 a3 k_a3 .byte (3 : Int32) [(.int (StrChars.lo8 x1)), (.int (StrChars.lo8 x2)), (.int (StrChars.lo8 x3))] (.int 0)) (SgCS : Sta Z Z.heap "java/lang/String" "COMPACT_STRINGS" "Z" (.int gCS)) (NgCS : ¬ (gCS = (0 : Int32))) (F_a2_coder : Fld Z h0 a2 "java/lang/String" "coder" "B" (.int 0)) (F_a1_count : Fld Z h0 a1 "java/lang/AbstractStringBuilder" "count" "I" (.int 9)) (E_a1 : Exa Z h0 a1 "java/lang/StringBuilder") (F_a1_value : Fld Z h0 a1 "java/lang/AbstractStringBuilder" "value" "[B" (.ref a4)) (V_a4 : Arv Z h0 a4 k_a4 .byte (16 : Int32) [(.int x4), (.int x5), (.int x6), (.int x7), (.int x8), (.int x4), (.int x9), (.int x10), (.int x11), (.int 0), (.int 0), (.int 0), (.int 0), (.int 0), (.int 0), (.int 0)] (.int 0)) (F_a1_coder : Fld Z h0 a1 "java/lang/AbstractStringBuilder" "coder" "B" (.int 0)) (g_a4 : Z.heap.size ≤ a4) (g_a1 : Z.heap.size ≤ a1) :
    CtrN l Z (⟨"java/lang/StringBuilder", "append", "(Ljava/lang/String;)Ljava/lang/StringBuilder;"⟩ : MethodName) jdk_67_method_7_code 2 (some (.object "java/lang/StringBuilder")) [] (⟨4, 0, 0, 70⟩ : Room) #[(.ref a1), (.ref a2)] h0 [a1, a4] (fun v h => Fld Z h a1 "java/lang/AbstractStringBuilder" "count" "I" (.int 12) ∧ Fld Z h a1 "java/lang/AbstractStringBuilder" "value" "[B" (.ref a4) ∧ Arv Z h a4 k_a4 .byte (16 : Int32) [(.int x4), (.int x5), (.int x6), (.int x7), (.int x8), (.int x4), (.int x9), (.int x10), (.int x11), (.int (StrChars.lo8 x1)), (.int (StrChars.lo8 x2)), (.int (StrChars.lo8 x3)), (.int 0), (.int 0), (.int 0), (.int 0)] (.int 0) ∧ Fld Z h a1 "java/lang/AbstractStringBuilder" "coder" "B" (.int 0) ∧ v = some (.ref a1)) := by
  refine CtrN.intro (L0 := #[.val (.ref a1), .val (.ref a2)]) (plainFor_of_name pn3) O0 (own_entry rfl) ?_
  intro p e s m below meth c T0 hy hml hret hlk hnm W0
  refine o_aloadN W0 (pc' := 1) (hb hy d14_0) rfl rfl rfl ?_
  refine o_aloadN W0 (pc' := 2) (hb hy d14_1) rfl rfl rfl ?_
  refine o_super W0 (y := (⟨"java/lang/AbstractStringBuilder", "append", "(Ljava/lang/String;)Ljava/lang/AbstractStringBuilder;"⟩ : MethodName)) (by decide) (w85 hw) (w86 hw) (own_sameN (y := (⟨"java/lang/AbstractStringBuilder", "append", "(Ljava/lang/String;)Ljava/lang/AbstractStringBuilder;"⟩ : MethodName)) (y2 := (⟨"java/lang/AbstractStringBuilder", "ensureCapacityInternal", "(I)V"⟩ : MethodName)) (by decide) (w86 hw) rfl (w103 hw) (w105 hw)) (w87 hw) (w89 hw) (Ins.self E_a1) (argsL := [(.ref a2)]) (CtrN.back (Wd := 0) W0 (rm19 l Z a0 hw gCS a1 a2 a3 k_a3 x1 x2 x3 a4 k_a4 x4 x5 x6 x7 x8 x9 x10 x11 h0 W0.old E_a2 F_a2_value V_a3 SgCS NgCS F_a2_coder F_a1_count E_a1 F_a1_value V_a4 F_a1_coder g_a4 g_a1) (w89 hw) (w71 hw) (by decide) (by decide)) (by rw [hml]; rfl) (lenOf pd11 rfl) (S := []) rfl (by exact Nat.le_of_eq rfl) (pc' := 5) (hb hy d14_2) rfl (cells' := 0) (slots' := 0) rfl rfl (by decide) (by decide) (wy := [a4, a1]) (fun _ _ _ q => ⟨q.1, q.2.1⟩) (allS ⟨g_a4, (Or.inl (List.mem_of_getElem? (i := 1) rfl))⟩ (allS ⟨g_a1, (Or.inl (List.mem_of_getElem? (i := 0) rfl))⟩ all0)) (fun _ _ => trivial) ?_
  intro v1 T1 h1 lo1 W1 K1 q1
  obtain ⟨P1_0, P1_1, P1_2, P1_3, rfl⟩ := q1.2.2
  show Gl _ _ _ _ _ _ _ _ [(.ref a1)]
  refine o_pop W1 (pc' := 6) (hb hy d14_5) rfl rfl ?_
  refine o_aloadN W1 (pc' := 7) (hb hy d14_6) rfl rfl rfl ?_
  have c2 := (E_a1.keep K1)
  exact o_retA W1 hlk (v := (.ref a1)) hret rfl rfl (hb hy d14_7) (by decide) (by decide) ⟨P1_0, P1_1, P1_2, P1_3, rfl⟩
theorem rm21 (l : Launch) (Z : State) (a0 : Array Value) (hw : ∀ d ∈ tables_1, d.before a0 Z = true) (a1 a2 : Addr) (h0 : Heap) (O0 : Old Z Z.heap.size h0) (F_a1_value : Fld Z h0 a1 "java/lang/AbstractStringBuilder" "value" "[B" (.ref a2)) :
    CtrN l Z (⟨"java/lang/AbstractStringBuilder", "getValue", "()[B"⟩ : MethodName) jdk_68_method_64_code 1 (some (.array .byte)) [] (⟨0, 0, 0, 0⟩ : Room) #[(.ref a1)] h0 [] (fun v h => v = some (.ref a2)) := by
  refine CtrN.intro (L0 := #[.val (.ref a1)]) (plainFor_of_name pn2) O0 (own_entry rfl) ?_
  intro p e s m below meth c T0 hy hml hret hlk hnm W0
  refine o_aloadN W0 (pc' := 1) (hb hy d25_0) rfl rfl rfl ?_
  refine o_getF W0 (w75 hw) Via.refl F_a1_value (pc' := 4) (hb hy d25_1) rfl ?_
  intro T1 W1
  exact o_retA W1 hlk (v := (.ref a2)) hret rfl rfl (hb hy d25_4) (by decide) (by decide) rfl
theorem rm22 (l : Launch) (Z : State) (a0 : Array Value) (hw : ∀ d ∈ tables_1, d.before a0 Z = true) (a1 : Addr) (h0 : Heap) (O0 : Old Z Z.heap.size h0) (F_a1_count : Fld Z h0 a1 "java/lang/AbstractStringBuilder" "count" "I" (.int 12)) :
    CtrN l Z (⟨"java/lang/AbstractStringBuilder", "length", "()I"⟩ : MethodName) jdk_68_method_6_code 1 (some .int) [] (⟨0, 0, 0, 0⟩ : Room) #[(.ref a1)] h0 [] (fun v h => v = some (.int 12)) := by
  refine CtrN.intro (L0 := #[.val (.ref a1)]) (plainFor_of_name pn2) O0 (own_entry rfl) ?_
  intro p e s m below meth c T0 hy hml hret hlk hnm W0
  refine o_aloadN W0 (pc' := 1) (hb hy d27_0) rfl rfl rfl ?_
  refine o_getF W0 (w100 hw) Via.refl F_a1_count (pc' := 4) (hb hy d27_1) rfl ?_
  intro T1 W1
  exact o_retI W1 hlk hret (hb hy d27_4) (by decide) (by decide) rfl
theorem rm23 (l : Launch) (Z : State) (a0 : Array Value) (hw : ∀ d ∈ tables_1, d.before a0 Z = true) (a1 : Addr) (h0 : Heap) (O0 : Old Z Z.heap.size h0) (F_a1_count : Fld Z h0 a1 "java/lang/AbstractStringBuilder" "count" "I" (.int 12)) (E_a1 : Exa Z h0 a1 "java/lang/StringBuilder") :
    CtrN l Z (⟨"java/lang/StringBuilder", "length", "()I"⟩ : MethodName) jdk_67_method_93_code 1 (some .int) [] (⟨1, 0, 0, 12⟩ : Room) #[(.ref a1)] h0 [] (fun v h => v = some (.int 12)) := by
  refine CtrN.intro (L0 := #[.val (.ref a1)]) (plainFor_of_name pn3) O0 (own_entry rfl) ?_
  intro p e s m below meth c T0 hy hml hret hlk hnm W0
  refine o_aloadN W0 (pc' := 1) (hb hy d26_0) rfl rfl rfl ?_
  refine o_super W0 (y := (⟨"java/lang/AbstractStringBuilder", "length", "()I"⟩ : MethodName)) (by decide) (w150 hw) (w146 hw) (own_sameN (y := (⟨"java/lang/AbstractStringBuilder", "length", "()I"⟩ : MethodName)) (y2 := (⟨"java/lang/AbstractStringBuilder", "ensureCapacityInternal", "(I)V"⟩ : MethodName)) (by decide) (w146 hw) rfl (w103 hw) (w105 hw)) (w87 hw) (w151 hw) (Ins.self E_a1) (argsL := []) (CtrN.back (Wd := 0) W0 (rm22 l Z a0 hw a1 h0 W0.old F_a1_count) (w151 hw) (w71 hw) (by decide) (by decide)) (by rw [hml]; rfl) (lenOf pd8 rfl) (S := []) rfl (by exact Nat.le_of_eq rfl) (pc' := 4) (hb hy d26_1) rfl (cells' := 0) (slots' := 0) rfl rfl (by decide) (by decide) (wy := []) (fun _ _ _ q => ⟨q.1, q.2.1⟩) all0 (fun _ _ => trivial) ?_
  intro v1 T1 h1 lo1 W1 K1 q1
  obtain rfl := q1.2.2
  show Gl _ _ _ _ _ _ _ _ [(.int 12)]
  exact o_retI W1 hlk hret (hb hy d26_4) (by decide) (by decide) rfl
theorem rm24 (l : Launch) (Z : State) (a0 : Array Value) (hw : ∀ d ∈ tables_1, d.before a0 Z = true) (gCS : Int32) (a1 : Addr) (h0 : Heap) (O0 : Old Z Z.heap.size h0) (SgCS : Sta Z Z.heap "java/lang/String" "COMPACT_STRINGS" "Z" (.int gCS)) (NgCS : ¬ (gCS = (0 : Int32))) (F_a1_coder : Fld Z h0 a1 "java/lang/AbstractStringBuilder" "coder" "B" (.int 0)) :
    CtrN l Z (⟨"java/lang/AbstractStringBuilder", "isLatin1", "()Z"⟩ : MethodName) jdk_68_method_68_code 1 (some .boolean) [] (⟨0, 0, 0, 0⟩ : Room) #[(.ref a1)] h0 [] (fun v h => v = some (.int 1)) := by
  refine CtrN.intro (L0 := #[.val (.ref a1)]) (plainFor_of_name pn2) O0 (own_entry rfl) ?_
  intro p e s m below meth c T0 hy hml hret hlk hnm W0
  refine o_getS W0 (w74 hw) Via.refl (SgCS.ext W0.ox) (pc' := 3) (hb hy d28_0) rfl ?_
  intro T1 W1
  refine o_ifN W1 (pc' := 6) (hb hy d28_3) (XT.i0_eq_f NgCS) rfl ?_
  refine o_aloadN W1 (pc' := 7) (hb hy d28_6) rfl rfl rfl ?_
  refine o_getF W1 (w77 hw) Via.refl F_a1_coder (pc' := 10) (hb hy d28_7) rfl ?_
  intro T2 W2
  refine o_ifN W2 (pc' := 13) (hb hy d28_10) (XT.i0_ne_f (by decide)) rfl ?_
  refine o_iconst W2 (v := 1) (pc' := 14) (hb hy d28_13) rfl rfl ?_
  refine o_goto W2 (pc' := 18) (hb hy d28_14) (by decide) rfl ?_
  exact o_retN W2 hlk (t := .boolean) hret (by simp) (z' := (1 : Int32)) (by decide) (hb hy d28_18) (by decide) (by decide) rfl
theorem rm25 (l : Launch) (Z : State) (a0 : Array Value) (hw : ∀ d ∈ tables_1, d.before a0 Z = true)  (h0 : Heap) (O0 : Old Z Z.heap.size h0) :
    CtrN l Z (⟨"java/util/Arrays", "checkLength", "(II)V"⟩ : MethodName) jdk_65_method_131_code 2 none [] (⟨0, 0, 0, 0⟩ : Room) #[(.int 0), (.int 12)] h0 [] (fun v h => v = none) := by
  refine CtrN.intro (L0 := #[.val (.int 0), .val (.int 12)]) (plainFor_of_name pn5) O0 (own_entry rfl) ?_
  intro p e s m below meth c T0 hy hml hret hlk hnm W0
  refine o_iloadN W0 (pc' := 1) (hb hy d31_0) rfl rfl ?_
  refine o_iloadN W0 (pc' := 2) (hb hy d31_1) rfl rfl ?_
  refine o_icmpY W0 (pc' := 37) (hb hy d31_2) (XT.ii_ge_t (by decide)) (by decide) rfl ?_
  exact o_ret0 W0 hlk hret (hb hy d31_37) (by decide) (by decide) rfl
theorem rm26 (l : Launch) (Z : State) (a0 : Array Value) (hw : ∀ d ∈ tables_1, d.before a0 Z = true)  (h0 : Heap) (O0 : Old Z Z.heap.size h0) :
    CtrN l Z (⟨"java/lang/Math", "min", "(II)I"⟩ : MethodName) jdk_29_method_69_code 2 (some .int) [] (⟨0, 0, 0, 0⟩ : Room) #[(.int 16), (.int 12)] h0 [] (fun v h => v = some (.int 12)) := by
  refine CtrN.intro (L0 := #[.val (.int 16), .val (.int 12)]) (Jvm.Free.JP.mathPlain rfl (by decide +kernel)) O0 (own_entry rfl) ?_
  intro p e s m below meth c T0 hy hml hret hlk hnm W0
  refine o_iloadN W0 (pc' := 1) (hb hy d32_0) rfl rfl ?_
  refine o_iloadN W0 (pc' := 2) (hb hy d32_1) rfl rfl ?_
  refine o_icmpY W0 (pc' := 9) (hb hy d32_2) (XT.ii_gt_t (by decide)) (by decide) rfl ?_
  refine o_iloadN W0 (pc' := 10) (hb hy d32_9) rfl rfl ?_
  exact o_retI W0 hlk hret (hb hy d32_10) (by decide) (by decide) rfl
theorem rm27 (l : Launch) (Z : State) (a0 : Array Value) (hw : ∀ d ∈ tables_1, d.before a0 Z = true) (a1 : Addr) (k_a1 : ClassId) (x1 x2 x3 x4 x5 x6 x7 x8 x9 x10 x11 : Int32) (h0 : Heap) (O0 : Old Z Z.heap.size h0) (V_a1 : Arv Z h0 a1 k_a1 .byte (16 : Int32) [(.int x1), (.int x2), (.int x3), (.int x4), (.int x5), (.int x1), (.int x6), (.int x7), (.int x8), (.int x9), (.int x10), (.int x11), (.int 0), (.int 0), (.int 0), (.int 0)] (.int 0)) :
    CtrN l Z (⟨"java/util/Arrays", "copyOfRangeByte", "([BII)[B"⟩ : MethodName) jdk_65_method_133_code 5 (some (.array .byte)) [] (⟨1, 1, 12, 27⟩ : Room) #[(.ref a1), (.int 0), (.int 12)] h0 [] (fun v h => ∃ r1 : Addr, ∃ r2 : ClassId, h0.size ≤ r1 ∧ Arv Z h r1 r2 .byte (12 : Int32) [(.int x1), (.int x2), (.int x3), (.int x4), (.int x5), (.int x1), (.int x6), (.int x7), (.int x8), (.int x9), (.int x10), (.int x11)] (.int 0) ∧ v = some (.ref r1)) := by
  refine CtrN.intro (L0 := #[.val (.ref a1), .val (.int 0), .val (.int 12), .unset, .unset]) (plainFor_of_name pn5) O0 (own_entry rfl) ?_
  intro p e s m below meth c T0 hy hml hret hlk hnm W0
  refine o_iloadN W0 (pc' := 1) (hb hy d30_0) rfl rfl ?_
  refine o_iloadN W0 (pc' := 2) (hb hy d30_1) rfl rfl ?_
  refine o_static W0 (y := (⟨"java/util/Arrays", "checkLength", "(II)V"⟩ : MethodName)) (w164 hw) (w165 hw) (w159 hw) (w166 hw) (by decide) (argsL := [(.int 0), (.int 12)]) (CtrN.back (Wd := 0) W0 (rm25 l Z a0 hw  h0 W0.old ) (w166 hw) (w159 hw) (by decide) (by decide)) (by rw [hml]; rfl) (lenOf pd14 rfl) (S := []) rfl (by exact Nat.le_of_eq rfl) (pc' := 5) (hb hy d30_2) rfl (cells' := 0) (slots' := 0) rfl rfl (by decide) (by decide) (wy := []) (fun _ _ _ q => ⟨q.1, q.2.1⟩) all0 (fun _ _ => trivial) ?_
  intro v1 T1 h1 lo1 W1 K1 q1
  obtain rfl := q1.2.2
  show Gl _ _ _ _ _ _ _ _ []
  refine o_iloadN W1 (pc' := 6) (hb hy d30_5) rfl rfl ?_
  refine o_iloadN W1 (pc' := 7) (hb hy d30_6) rfl rfl ?_
  refine o_isub W1 (v := 12) (pc' := 8) (hb hy d30_7) (by decide) rfl ?_
  refine o_istoreN W1 (L' := #[.val (.ref a1), .val (.int 0), .val (.int 12), .val (.int 12), .unset]) (pc' := 9) (hb hy d30_8) rfl rfl ?_
  refine o_iloadN W1 (pc' := 10) (hb hy d30_9) rfl rfl ?_
  refine o_newP W1 (aty := .byte) (w15 hw) (fun _ _ => trivial) (by decide) (cap := 12) (by decide) (by decide) (pc' := 12) (hb hy d30_10) rfl (cells' := 1) (slots' := 12) rfl rfl (by decide) (by decide) (vs := [(.int 0), (.int 0), (.int 0), (.int 0), (.int 0), (.int 0), (.int 0), (.int 0), (.int 0), (.int 0), (.int 0), (.int 0)]) (dv := (.int 0)) rfl rfl ?_
  intro b2 T2 h2 k2 W2 E2 ge2 gz2 gb2 V2
  refine o_astore W2 (L' := #[.val (.ref a1), .val (.int 0), .val (.int 12), .val (.int 12), .val (.ref b2)]) (pc' := 14) (hb hy d30_12) rfl rfl rfl ?_
  refine o_aloadN W2 (pc' := 15) (hb hy d30_14) rfl rfl rfl ?_
  refine o_iloadN W2 (pc' := 16) (hb hy d30_15) rfl rfl ?_
  refine o_aload W2 (pc' := 18) (hb hy d30_16) rfl rfl rfl ?_
  refine o_iconst W2 (v := 0) (pc' := 19) (hb hy d30_18) rfl rfl ?_
  refine o_aloadN W2 (pc' := 20) (hb hy d30_19) rfl rfl rfl ?_
  have c3 := ((V_a1.keep K1 nin0).ext E2)
  refine o_len W2 c3 (pc' := 21) (hb hy d30_20) rfl ?_
  refine o_iloadN W2 (pc' := 22) (hb hy d30_21) rfl rfl ?_
  refine o_isub W2 (v := 16) (pc' := 23) (hb hy d30_22) (by decide) rfl ?_
  refine o_iloadN W2 (pc' := 24) (hb hy d30_23) rfl rfl ?_
  refine o_static W2 (y := (⟨"java/lang/Math", "min", "(II)I"⟩ : MethodName)) (w167 hw) (w168 hw) (w169 hw) (w170 hw) (by decide) (argsL := [(.int 16), (.int 12)]) (CtrN.back (Wd := 4) W2 (rm26 l Z a0 hw  h2 W2.old ) (w170 hw) (w169 hw) (by decide) (by decide)) (by rw [hml]; rfl) (lenOf pd15 rfl) (S := [(.int 0), (.ref b2), (.int 0), (.ref a1)]) rfl (by exact Nat.le_of_eq rfl) (pc' := 27) (hb hy d30_24) rfl (cells' := 1) (slots' := 12) rfl rfl (by decide) (by decide) (wy := []) (fun _ _ _ q => ⟨q.1, q.2.1⟩) all0 (fun _ _ => trivial) ?_
  intro v4 T4 h4 lo4 W4 K4 q4
  obtain rfl := q4.2.2
  show Gl _ _ _ _ _ _ _ _ [(.int 12), (.int 0), (.ref b2), (.int 0), (.ref a1)]
  have c5 := (c3.keep K4 nin0)
  have c6 := (V2.keep K4 nin0)
  refine o_copy W4 (w171 hw) (w126 hw) (w124 hw) (w125 hw) c5 c6 (us := [(.int x1), (.int x2), (.int x3), (.int x4), (.int x5), (.int x1), (.int x6), (.int x7), (.int x8), (.int x9), (.int x10), (.int x11)]) (Or.inl ⟨rfl, rfl⟩) (by decide) (by decide) (by decide) (by decide) (by decide) rfl (Nat.le_of_ble_eq_true rfl) (vd' := [(.int x1), (.int x2), (.int x3), (.int x4), (.int x5), (.int x1), (.int x6), (.int x7), (.int x8), (.int x9), (.int x10), (.int x11)]) rfl gz2 (Or.inr gb2) (fun _ _ => trivial) (by rw [hml]; rfl) (pc' := 30) (hb hy d30_27) rfl (by decide) 0 (by exact Nat.le_of_eq rfl) (by decide) ?_
  intro T7 h7 lo7 W7 K7 V7
  refine o_aload W7 (pc' := 32) (hb hy d30_30) rfl rfl rfl ?_
  exact o_retA W7 hlk (v := (.ref b2)) hret rfl rfl (hb hy d30_32) (by decide) (by decide) ⟨b2, k2, gb2, V7, rfl⟩
theorem rm28 (l : Launch) (Z : State) (a0 : Array Value) (hw : ∀ d ∈ tables_1, d.before a0 Z = true) (a1 : Addr) (k_a1 : ClassId) (x1 x2 x3 x4 x5 x6 x7 x8 x9 x10 x11 : Int32) (h0 : Heap) (O0 : Old Z Z.heap.size h0) (V_a1 : Arv Z h0 a1 k_a1 .byte (16 : Int32) [(.int x1), (.int x2), (.int x3), (.int x4), (.int x5), (.int x1), (.int x6), (.int x7), (.int x8), (.int x9), (.int x10), (.int x11), (.int 0), (.int 0), (.int 0), (.int 0)] (.int 0)) :
    CtrN l Z (⟨"java/util/Arrays", "copyOfRange", "([BII)[B"⟩ : MethodName) jdk_65_method_132_code 3 (some (.array .byte)) [] (⟨2, 1, 12, 43⟩ : Room) #[(.ref a1), (.int 0), (.int 12)] h0 [] (fun v h => ∃ r1 : Addr, ∃ r2 : ClassId, h0.size ≤ r1 ∧ Arv Z h r1 r2 .byte (12 : Int32) [(.int x1), (.int x2), (.int x3), (.int x4), (.int x5), (.int x1), (.int x6), (.int x7), (.int x8), (.int x9), (.int x10), (.int x11)] (.int 0) ∧ v = some (.ref r1)) := by
  refine CtrN.intro (L0 := #[.val (.ref a1), .val (.int 0), .val (.int 12)]) (plainFor_of_name pn5) O0 (own_entry rfl) ?_
  intro p e s m below meth c T0 hy hml hret hlk hnm W0
  refine o_iloadN W0 (pc' := 1) (hb hy d29_0) rfl rfl ?_
  refine o_ifN W0 (pc' := 4) (hb hy d29_1) (XT.i0_ne_f (by decide)) rfl ?_
  refine o_iloadN W0 (pc' := 5) (hb hy d29_4) rfl rfl ?_
  refine o_aloadN W0 (pc' := 6) (hb hy d29_5) rfl rfl rfl ?_
  refine o_len W0 V_a1 (pc' := 7) (hb hy d29_6) rfl ?_
  refine o_icmpN W0 (pc' := 10) (hb hy d29_7) (XT.ii_eq_f (by decide)) rfl ?_
  refine o_aloadN W0 (pc' := 11) (hb hy d29_10) rfl rfl rfl ?_
  refine o_iloadN W0 (pc' := 12) (hb hy d29_11) rfl rfl ?_
  refine o_iloadN W0 (pc' := 13) (hb hy d29_12) rfl rfl ?_
  refine o_static W0 (y := (⟨"java/util/Arrays", "copyOfRangeByte", "([BII)[B"⟩ : MethodName)) (w161 hw) (w162 hw) (w159 hw) (w163 hw) (by decide) (argsL := [(.ref a1), (.int 0), (.int 12)]) (CtrN.back (Wd := 0) W0 (rm27 l Z a0 hw a1 k_a1 x1 x2 x3 x4 x5 x6 x7 x8 x9 x10 x11 h0 W0.old V_a1) (w163 hw) (w159 hw) (by decide) (by decide)) (by rw [hml]; rfl) (lenOf pd16 rfl) (S := []) rfl (by exact Nat.le_of_eq rfl) (pc' := 16) (hb hy d29_13) rfl (cells' := 1) (slots' := 12) rfl rfl (by decide) (by decide) (wy := []) (fun _ _ _ q => ⟨q.1, q.2.1⟩) all0 (fun _ _ => trivial) ?_
  intro v1 T1 h1 lo1 W1 K1 q1
  obtain ⟨r1_1, r2_1, P1_0, P1_1, rfl⟩ := q1.2.2
  show Gl _ _ _ _ _ _ _ _ [(.ref r1_1)]
  exact o_retA W1 hlk (v := (.ref r1_1)) hret rfl rfl (hb hy d29_16) (by decide) (by decide) ⟨r1_1, r2_1, (Nat.le_trans W0.keep.1 P1_0), P1_1, rfl⟩
theorem rm29 (l : Launch) (Z : State) (a0 : Array Value) (hw : ∀ d ∈ tables_1, d.before a0 Z = true) (gCS : Int32) (a1 a2 a3 : Addr) (k_a3 : ClassId) (x1 x2 x3 x4 x5 x6 x7 x8 x9 x10 x11 : Int32) (h0 : Heap) (O0 : Old Z Z.heap.size h0) (E_a2 : Exa Z h0 a2 "java/lang/StringBuilder") (F_a2_value : Fld Z h0 a2 "java/lang/AbstractStringBuilder" "value" "[B" (.ref a3)) (F_a2_count : Fld Z h0 a2 "java/lang/AbstractStringBuilder" "count" "I" (.int 12)) (SgCS : Sta Z Z.heap "java/lang/String" "COMPACT_STRINGS" "Z" (.int gCS)) (NgCS : ¬ (gCS = (0 : Int32))) (F_a2_coder : Fld Z h0 a2 "java/lang/AbstractStringBuilder" "coder" "B" (.int 0)) (E_a1 : Exa Z h0 a1 "java/lang/String") (F_a1_coder : Fld Z h0 a1 "java/lang/String" "coder" "B" (.int 0)) (g_a1 : Z.heap.size ≤ a1) (V_a3 : Arv Z h0 a3 k_a3 .byte (16 : Int32) [(.int x1), (.int x2), (.int x3), (.int x4), (.int x5), (.int x1), (.int x6), (.int x7), (.int x8), (.int x9), (.int x10), (.int x11), (.int 0), (.int 0), (.int 0), (.int 0)] (.int 0)) (F_a1_value : Fld Z h0 a1 "java/lang/String" "value" "[B" .null) :
    CtrN l Z (⟨"java/lang/String", "<init>", "(Ljava/lang/AbstractStringBuilder;Ljava/lang/Void;)V"⟩ : MethodName) jdk_42_method_150_code 5 none [] (⟨3, 1, 12, 58⟩ : Room) #[(.ref a1), (.ref a2), .null] h0 [a1] (fun v h => ∃ r1 : Addr, ∃ r2 : ClassId, h0.size ≤ r1 ∧ Fld Z h a1 "java/lang/String" "coder" "B" (.int 0) ∧ Fld Z h a1 "java/lang/String" "value" "[B" (.ref r1) ∧ Arv Z h r1 r2 .byte (12 : Int32) [(.int x1), (.int x2), (.int x3), (.int x4), (.int x5), (.int x1), (.int x6), (.int x7), (.int x8), (.int x9), (.int x10), (.int x11)] (.int 0) ∧ v = none) := by
  refine CtrN.intro (L0 := #[.val (.ref a1), .val (.ref a2), .val .null, .unset, .unset]) (plainFor_of_name pn4) O0 (own_entry rfl) ?_
  intro p e s m below meth c T0 hy hml hret hlk hnm W0
  refine o_aloadN W0 (pc' := 1) (hb hy d24_0) rfl rfl rfl ?_
  refine o_initO W0 (w11 hw) (w12 hw) (w13 hw) (by rw [hml]; rfl) (pc' := 4) (hb hy d24_1) rfl (by decide) 0 (by exact Nat.le_of_eq rfl) (by decide) ?_
  intro T1 W1
  refine o_aloadN W1 (pc' := 5) (hb hy d24_4) rfl rfl rfl ?_
  refine o_virtual W1 (y := (⟨"java/lang/AbstractStringBuilder", "getValue", "()[B"⟩ : MethodName)) (z := (⟨"java/lang/AbstractStringBuilder", "getValue", "()[B"⟩ : MethodName)) (w139 hw) (w140 hw) (o_nf W1 rfl (w142 hw)) (w142 hw) (w141 hw) (by decide) E_a2 (argsL := []) (CtrN.back (Wd := 0) W1 (rm21 l Z a0 hw a2 a3 h0 W1.old F_a2_value) (w143 hw) (w71 hw) (by decide) (by decide)) (by rw [hml]; rfl) (lenOf pd13 rfl) (S := []) rfl (by exact Nat.le_of_eq rfl) (pc' := 8) (hb hy d24_5) rfl (cells' := 0) (slots' := 0) rfl rfl (by decide) (by decide) (wy := []) (fun _ _ _ q => ⟨q.1, q.2.1⟩) all0 (fun _ _ => trivial) ?_
  intro v2 T2 h2 lo2 W2 K2 q2
  obtain rfl := q2.2.2
  show Gl _ _ _ _ _ _ _ _ [(.ref a3)]
  refine o_astoreN W2 (L' := #[.val (.ref a1), .val (.ref a2), .val .null, .val (.ref a3), .unset]) (pc' := 9) (hb hy d24_8) rfl rfl rfl ?_
  refine o_aloadN W2 (pc' := 10) (hb hy d24_9) rfl rfl rfl ?_
  have c3 := (F_a2_count.keep K2 nin0)
  have c4 := (E_a2.keep K2)
  refine o_virtual W2 (y := (⟨"java/lang/AbstractStringBuilder", "length", "()I"⟩ : MethodName)) (z := (⟨"java/lang/StringBuilder", "length", "()I"⟩ : MethodName)) (w144 hw) (w145 hw) (o_nf2 W2 (y2 := (⟨"java/lang/AbstractStringBuilder", "ensureCapacityInternal", "(I)V"⟩ : MethodName)) rfl (w103 hw) (w105 hw)) (w147 hw) (w148 hw) (by decide) c4 (argsL := []) (CtrN.back (Wd := 0) W2 (rm23 l Z a0 hw a2 h2 W2.old c3 c4) (w149 hw) (w63 hw) (by decide) (by decide)) (by rw [hml]; rfl) (lenOf pd8 rfl) (S := []) rfl (by exact Nat.le_of_eq rfl) (pc' := 13) (hb hy d24_10) rfl (cells' := 0) (slots' := 0) rfl rfl (by decide) (by decide) (wy := []) (fun _ _ _ q => ⟨q.1, q.2.1⟩) all0 (fun _ _ => trivial) ?_
  intro v5 T5 h5 lo5 W5 K5 q5
  obtain rfl := q5.2.2
  show Gl _ _ _ _ _ _ _ _ [(.int 12)]
  refine o_istore W5 (L' := #[.val (.ref a1), .val (.ref a2), .val .null, .val (.ref a3), .val (.int 12)]) (pc' := 15) (hb hy d24_13) rfl rfl ?_
  refine o_aloadN W5 (pc' := 16) (hb hy d24_15) rfl rfl rfl ?_
  have c6 := ((F_a2_coder.keep K2 nin0).keep K5 nin0)
  have c7 := (c4.keep K5)
  refine o_virtual W5 (y := (⟨"java/lang/AbstractStringBuilder", "isLatin1", "()Z"⟩ : MethodName)) (z := (⟨"java/lang/AbstractStringBuilder", "isLatin1", "()Z"⟩ : MethodName)) (w152 hw) (w153 hw) (o_nf W5 rfl (w155 hw)) (w155 hw) (w154 hw) (by decide) c7 (argsL := []) (CtrN.back (Wd := 0) W5 (rm24 l Z a0 hw gCS a2 h5 W5.old SgCS NgCS c6) (w156 hw) (w71 hw) (by decide) (by decide)) (by rw [hml]; rfl) (lenOf pd4 rfl) (S := []) rfl (by exact Nat.le_of_eq rfl) (pc' := 19) (hb hy d24_16) rfl (cells' := 0) (slots' := 0) rfl rfl (by decide) (by decide) (wy := []) (fun _ _ _ q => ⟨q.1, q.2.1⟩) all0 (fun _ _ => trivial) ?_
  intro v8 T8 h8 lo8 W8 K8 q8
  obtain rfl := q8.2.2
  show Gl _ _ _ _ _ _ _ _ [(.int 1)]
  refine o_ifN W8 (pc' := 22) (hb hy d24_19) (XT.i0_eq_f (by decide)) rfl ?_
  refine o_aloadN W8 (pc' := 23) (hb hy d24_22) rfl rfl rfl ?_
  refine o_iconst W8 (v := 0) (pc' := 24) (hb hy d24_23) rfl rfl ?_
  have c9 := (((E_a1.keep K2).keep K5).keep K8)
  have c10 := (((F_a1_coder.keep K2 nin0).keep K5 nin0).keep K8 nin0)
  refine o_putF W8 (w21 hw) Via.refl c10 c9 (Or.inr ⟨(w17 hw), rfl, hnm⟩) (w2 hw) (ty := .byte) (v' := (.int 0)) (by decide) rfl (by decide) g_a1 (Or.inl (List.mem_of_getElem? (i := 0) rfl)) (fun _ _ => trivial) (pc' := 27) (hb hy d24_24) rfl ?_
  intro T11 h11 lo11 W11 R11
  have F11 := c10.same R11
  refine o_aloadN W11 (pc' := 28) (hb hy d24_27) rfl rfl rfl ?_
  refine o_aloadN W11 (pc' := 29) (hb hy d24_28) rfl rfl rfl ?_
  refine o_iconst W11 (v := 0) (pc' := 30) (hb hy d24_29) rfl rfl ?_
  refine o_iload W11 (pc' := 32) (hb hy d24_30) rfl rfl ?_
  have c12 := (c9.wr R11)
  have c13 := (((V_a3.keep K2 nin0).keep K5 nin0).keep K8 nin0)
  have c14 := ((((V_a3.keep K2 nin0).keep K5 nin0).keep K8 nin0).other R11 (Ne.symm (Exa.neArv c9 c13 (w2 hw))))
  refine o_static W11 (y := (⟨"java/util/Arrays", "copyOfRange", "([BII)[B"⟩ : MethodName)) (w157 hw) (w158 hw) (w159 hw) (w160 hw) (by decide) (argsL := [(.ref a3), (.int 0), (.int 12)]) (CtrN.back (Wd := 1) W11 (rm28 l Z a0 hw a3 k_a3 x1 x2 x3 x4 x5 x6 x7 x8 x9 x10 x11 h11 W11.old c14) (w160 hw) (w159 hw) (by decide) (by decide)) (by rw [hml]; rfl) (lenOf pd16 rfl) (S := [(.ref a1)]) rfl (by exact Nat.le_of_eq rfl) (pc' := 35) (hb hy d24_32) rfl (cells' := 1) (slots' := 12) rfl rfl (by decide) (by decide) (wy := []) (fun _ _ _ q => ⟨q.1, q.2.1⟩) all0 (fun _ _ => trivial) ?_
  intro v15 T15 h15 lo15 W15 K15 q15
  obtain ⟨r1_15, r2_15, P15_0, P15_1, rfl⟩ := q15.2.2
  show Gl _ _ _ _ _ _ _ _ [(.ref r1_15), (.ref a1)]
  have c16 := (c12.keep K15)
  have c17 := (((((F_a1_value.keep K2 nin0).keep K5 nin0).keep K8 nin0).other R11 (Or.inr (slot_ne (Or.inr (w16 hw)) (Or.inr (w17 hw)) (by decide) (t := (.array .byte)) (t' := .byte) (by decide) (by decide)))).keep K15 nin0)
  refine o_putF W15 (w20 hw) Via.refl c17 c16 (Or.inr ⟨(w16 hw), rfl, hnm⟩) (w2 hw) (ty := (.array .byte)) (v' := (.ref r1_15)) (by decide) rfl rfl g_a1 (Or.inl (List.mem_of_getElem? (i := 0) rfl)) (fun _ _ => trivial) (pc' := 38) (hb hy d24_35) rfl ?_
  intro T18 h18 lo18 W18 R18
  have F18 := c17.same R18
  refine o_goto W18 (pc' := 97) (hb hy d24_38) (by decide) rfl ?_
  have c19 := ((F11.keep K15 nin0).other R18 (Or.inr (slot_ne (Or.inr (w17 hw)) (Or.inr (w16 hw)) (by decide) (t := .byte) (t' := (.array .byte)) (by decide) (by decide))))
  have c20 := (c16.wr R18)
  have c21 := (P15_1.other R18 (own_ne' c12.lt P15_0))
  exact o_ret0 W18 hlk hret (hb hy d24_97) (by decide) (by decide) ⟨r1_15, r2_15, (Nat.le_trans W11.keep.1 P15_0), c19, F18, c21, rfl⟩
theorem rm30 (l : Launch) (Z : State) (a0 : Array Value) (hw : ∀ d ∈ tables_1, d.before a0 Z = true) (gCS : Int32) (a1 a2 a3 : Addr) (k_a3 : ClassId) (x1 x2 x3 x4 x5 x6 x7 x8 x9 x10 x11 : Int32) (h0 : Heap) (O0 : Old Z Z.heap.size h0) (E_a2 : Exa Z h0 a2 "java/lang/StringBuilder") (F_a2_value : Fld Z h0 a2 "java/lang/AbstractStringBuilder" "value" "[B" (.ref a3)) (F_a2_count : Fld Z h0 a2 "java/lang/AbstractStringBuilder" "count" "I" (.int 12)) (SgCS : Sta Z Z.heap "java/lang/String" "COMPACT_STRINGS" "Z" (.int gCS)) (NgCS : ¬ (gCS = (0 : Int32))) (F_a2_coder : Fld Z h0 a2 "java/lang/AbstractStringBuilder" "coder" "B" (.int 0)) (E_a1 : Exa Z h0 a1 "java/lang/String") (F_a1_coder : Fld Z h0 a1 "java/lang/String" "coder" "B" (.int 0)) (V_a3 : Arv Z h0 a3 k_a3 .byte (16 : Int32) [(.int x1), (.int x2), (.int x3), (.int x4), (.int x5), (.int x1), (.int x6), (.int x7), (.int x8), (.int x9), (.int x10), (.int x11), (.int 0), (.int 0), (.int 0), (.int 0)] (.int 0)) (F_a1_value : Fld Z h0 a1 "java/lang/String" "value" "[B" .null) (g_a1 : Z.heap.size ≤ a1) :
    CtrN l Z (⟨"java/lang/String", "<init>", "(Ljava/lang/StringBuilder;)V"⟩ : MethodName) jdk_42_method_53_code 2 none [] (⟨4, 1, 12, 74⟩ : Room) #[(.ref a1), (.ref a2)] h0 [a1] (fun v h => ∃ r1 : Addr, ∃ r2 : ClassId, h0.size ≤ r1 ∧ Fld Z h a1 "java/lang/String" "coder" "B" (.int 0) ∧ Fld Z h a1 "java/lang/String" "value" "[B" (.ref r1) ∧ Arv Z h r1 r2 .byte (12 : Int32) [(.int x1), (.int x2), (.int x3), (.int x4), (.int x5), (.int x1), (.int x6), (.int x7), (.int x8), (.int x9), (.int x10), (.int x11)] (.int 0) ∧ v = none) := by
  refine CtrN.intro (L0 := #[.val (.ref a1), .val (.ref a2)]) (plainFor_of_name pn4) O0 (own_entry rfl) ?_
  intro p e s m below meth c T0 hy hml hret hlk hnm W0
  refine o_aloadN W0 (pc' := 1) (hb hy d23_0) rfl rfl rfl ?_
  refine o_aloadN W0 (pc' := 2) (hb hy d23_1) rfl rfl rfl ?_
  refine o_aconstNull W0 (pc' := 3) (hb hy d23_2) rfl ?_
  refine o_special W0 (y := (⟨"java/lang/String", "<init>", "(Ljava/lang/AbstractStringBuilder;Ljava/lang/Void;)V"⟩ : MethodName)) rfl (w136 hw) (w137 hw) (w138 hw) (by decide) (a := a1) (argsL := [(.ref a2), .null]) (CtrN.back (Wd := 0) W0 (rm29 l Z a0 hw gCS a1 a2 a3 k_a3 x1 x2 x3 x4 x5 x6 x7 x8 x9 x10 x11 h0 W0.old E_a2 F_a2_value F_a2_count SgCS NgCS F_a2_coder E_a1 F_a1_coder g_a1 V_a3 F_a1_value) (w138 hw) (w3 hw) (by decide) (by decide)) (by rw [hml]; rfl) (lenOf pd17 rfl) (S := []) rfl (by exact Nat.le_of_eq rfl) (pc' := 6) (hb hy d23_3) rfl (cells' := 1) (slots' := 12) rfl rfl (by decide) (by decide) (wy := [a1]) (fun _ _ _ q => ⟨q.1, q.2.1⟩) (allS ⟨g_a1, (Or.inl (List.mem_of_getElem? (i := 0) rfl))⟩ all0) (fun _ _ => trivial) ?_
  intro v1 T1 h1 lo1 W1 K1 q1
  obtain ⟨r1_1, r2_1, P1_0, P1_1, P1_2, P1_3, rfl⟩ := q1.2.2
  show Gl _ _ _ _ _ _ _ _ []
  have c2 := (E_a1.keep K1)
  exact o_ret0 W1 hlk hret (hb hy d23_6) (by decide) (by decide) ⟨r1_1, r2_1, (Nat.le_trans W0.keep.1 P1_0), P1_1, P1_2, P1_3, rfl⟩
theorem rm31 (l : Launch) (Z : State) (a0 : Array Value) (hw : ∀ d ∈ tables_1, d.before a0 Z = true) (gCS : Int32) (a1 a2 : Addr) (k_a2 : ClassId) (x1 x2 x3 x4 x5 x6 x7 x8 x9 x10 x11 : Int32) (h0 : Heap) (O0 : Old Z Z.heap.size h0) (E_a1 : Exa Z h0 a1 "java/lang/StringBuilder") (F_a1_value : Fld Z h0 a1 "java/lang/AbstractStringBuilder" "value" "[B" (.ref a2)) (F_a1_count : Fld Z h0 a1 "java/lang/AbstractStringBuilder" "count" "I" (.int 12)) (SgCS : Sta Z Z.heap "java/lang/String" "COMPACT_STRINGS" "Z" (.int gCS)) (NgCS : ¬ (gCS = (0 : Int32))) (F_a1_coder : Fld Z h0 a1 "java/lang/AbstractStringBuilder" "coder" "B" (.int 0)) (V_a2 : Arv Z h0 a2 k_a2 .byte (16 : Int32) [(.int x1), (.int x2), (.int x3), (.int x4), (.int x5), (.int x1), (.int x6), (.int x7), (.int x8), (.int x9), (.int x10), (.int x11), (.int 0), (.int 0), (.int 0), (.int 0)] (.int 0)) :
    CtrN l Z (⟨"java/lang/StringBuilder", "toString", "()Ljava/lang/String;"⟩ : MethodName) jdk_67_method_42_code 1 (some (.object "java/lang/String")) [] (⟨5, 2, 16, 88⟩ : Room) #[(.ref a1)] h0 [] (fun v h => ∃ r1 : Addr, ∃ r2 : Addr, ∃ r3 : ClassId, h0.size ≤ r1 ∧ h0.size ≤ r2 ∧ Exa Z h r1 "java/lang/String" ∧ Fld Z h r1 "java/lang/String" "value" "[B" (.ref r2) ∧ Fld Z h r1 "java/lang/String" "coder" "B" (.int 0) ∧ Arv Z h r2 r3 .byte (12 : Int32) [(.int x1), (.int x2), (.int x3), (.int x4), (.int x5), (.int x1), (.int x6), (.int x7), (.int x8), (.int x9), (.int x10), (.int x11)] (.int 0) ∧ v = some (.ref r1)) := by
  refine CtrN.intro (L0 := #[.val (.ref a1)]) (plainFor_of_name pn3) O0 (own_entry rfl) ?_
  intro p e s m below meth c T0 hy hml hret hlk hnm W0
  refine o_new W0 (w132 hw) (w2 hw) (w3 hw) (fun _ _ => trivial) (pc' := 3) (hb hy d22_0) rfl (cells' := 1) (slots' := 4) rfl rfl (by decide) (by decide) ?_
  intro b1 T1 h1 W1 E1 ge1 gz1 gb1 A1 D1
  have Fb1_value : Fld Z h1 b1 "java/lang/String" "value" "[B" .null := D1 (Or.inr (w16 hw)) (ty := (.array .byte)) (by decide)
  have Fb1_coder : Fld Z h1 b1 "java/lang/String" "coder" "B" (.int 0) := D1 (Or.inr (w17 hw)) (ty := .byte) (by decide)
  refine o_dup W1 (pc' := 4) (hb hy d22_3) rfl rfl ?_
  refine o_aloadN W1 (pc' := 5) (hb hy d22_4) rfl rfl rfl ?_
  have c2 := (E_a1.ext E1)
  have c3 := (F_a1_value.ext E1)
  have c4 := (F_a1_count.ext E1)
  have c5 := (F_a1_coder.ext E1)
  have c6 := (V_a2.ext E1)
  refine o_special W1 (y := (⟨"java/lang/String", "<init>", "(Ljava/lang/StringBuilder;)V"⟩ : MethodName)) rfl (w133 hw) (w134 hw) (w135 hw) (by decide) (a := b1) (argsL := [(.ref a1)]) (CtrN.back (Wd := 1) W1 (rm30 l Z a0 hw gCS b1 a1 a2 k_a2 x1 x2 x3 x4 x5 x6 x7 x8 x9 x10 x11 h1 W1.old c2 c3 c4 SgCS NgCS c5 A1 Fb1_coder c6 Fb1_value gz1) (w135 hw) (w3 hw) (by decide) (by decide)) (by rw [hml]; rfl) (lenOf pd18 rfl) (S := [(.ref b1)]) rfl (by exact Nat.le_of_eq rfl) (pc' := 8) (hb hy d22_5) rfl (cells' := 2) (slots' := 16) rfl rfl (by decide) (by decide) (wy := [b1]) (fun _ _ _ q => ⟨q.1, q.2.1⟩) (allS ⟨gz1, (Or.inr gb1)⟩ all0) (fun _ _ => trivial) ?_
  intro v7 T7 h7 lo7 W7 K7 q7
  obtain ⟨r1_7, r2_7, P7_0, P7_1, P7_2, P7_3, rfl⟩ := q7.2.2
  show Gl _ _ _ _ _ _ _ _ [(.ref b1)]
  have c8 := (A1.keep K7)
  exact o_retA W7 hlk (v := (.ref b1)) hret rfl rfl (hb hy d22_8) (by decide) (by decide) ⟨b1, r1_7, r2_7, gb1, (Nat.le_trans W1.keep.1 P7_0), c8, P7_2, P7_1, P7_3, rfl⟩
theorem rm32 (l : Launch) (Z : State) (a0 : Array Value) (hw : ∀ d ∈ tables_1, d.before a0 Z = true) (gCS : Int32) (a1 a2 a3 : Addr) (k_a3 : ClassId) (x1 x2 x3 : Int32) (h0 : Heap) (O0 : Old Z Z.heap.size h0) (F_a1_reason : Fld Z h0 a1 "com/example/countersign/countersign/Verdict" "reason" "Ljava/lang/String;" (.ref a2)) (SgCS : Sta Z Z.heap "java/lang/String" "COMPACT_STRINGS" "Z" (.int gCS)) (NgCS : ¬ (gCS = (0 : Int32))) (E_a2 : Exa Z h0 a2 "java/lang/String") (F_a2_value : Fld Z h0 a2 "java/lang/String" "value" "[B" (.ref a3)) (V_a3 : Arv Z h0 a3 k_a3 .byte (3 : Int32) [(.int (StrChars.lo8 x1)), (.int (StrChars.lo8 x2)), (.int (StrChars.lo8 x3))] (.int 0)) (F_a2_coder : Fld Z h0 a2 "java/lang/String" "coder" "B" (.int 0)) :
    CtrW l Z consts_1 (⟨"com/example/countersign/countersign/Verdict", "toString", "()Ljava/lang/String;"⟩ : MethodName) prog_11_method_6_code 1 (some (.object "java/lang/String")) [] (⟨6, 6, 76, 100⟩ : Room) #[(.ref a1)] h0 [] (fun v h => ∃ r1 : Addr, ∃ r2 : Addr, ∃ r3 : ClassId, h0.size ≤ r1 ∧ h0.size ≤ r2 ∧ Exa Z h r1 "java/lang/String" ∧ Fld Z h r1 "java/lang/String" "value" "[B" (.ref r2) ∧ Fld Z h r1 "java/lang/String" "coder" "B" (.int 0) ∧ Arv Z h r2 r3 .byte (12 : Int32) [(.int (StrChars.lo8 (105 : Int32))), (.int (StrChars.lo8 (110 : Int32))), (.int (StrChars.lo8 (118 : Int32))), (.int (StrChars.lo8 (97 : Int32))), (.int (StrChars.lo8 (108 : Int32))), (.int (StrChars.lo8 (105 : Int32))), (.int (StrChars.lo8 (100 : Int32))), (.int (StrChars.lo8 (58 : Int32))), (.int (StrChars.lo8 (32 : Int32))), (.int (StrChars.lo8 x1)), (.int (StrChars.lo8 x2)), (.int (StrChars.lo8 x3))] (.int 0) ∧ v = some (.ref r1)) := by
  refine CtrW.intro (L0 := #[.val (.ref a1)]) (plainFor_of_name pn1) O0 (own_entry rfl) ?_
  intro p e s m below meth c T0 V0 hy hml hret hlk hnm W0
  refine o_aloadN W0 (pc' := 1) (hb hy d11_0) rfl rfl rfl ?_
  refine o_getF W0 (w49 hw) Via.refl F_a1_reason (pc' := 4) (hb hy d11_1) rfl ?_
  intro T1 W1
  refine o_ifnonnullY W1 (pc' := 12) (hb hy d11_4) (by decide) rfl ?_
  refine o_new W1 (w61 hw) (w62 hw) (w63 hw) (fun _ E => IW.ext E W1.inv) (pc' := 15) (hb hy d11_12) rfl (cells' := 1) (slots' := 4) rfl rfl (by decide) (by decide) ?_
  intro b2 T2 h2 W2 E2 ge2 gz2 gb2 A2 D2
  have Fb2_value : Fld Z h2 b2 "java/lang/AbstractStringBuilder" "value" "[B" .null := D2 (Or.inl (w76 hw)) (ty := (.array .byte)) (by decide)
  have Fb2_coder : Fld Z h2 b2 "java/lang/AbstractStringBuilder" "coder" "B" (.int 0) := D2 (Or.inl (w78 hw)) (ty := .byte) (by decide)
  have Fb2_count : Fld Z h2 b2 "java/lang/AbstractStringBuilder" "count" "I" (.int 0) := D2 (Or.inl (w101 hw)) (ty := .int) (by decide)
  refine o_dup W2 (pc' := 16) (hb hy d11_15) rfl rfl ?_
  refine o_special W2 (y := (⟨"java/lang/StringBuilder", "<init>", "()V"⟩ : MethodName)) rfl (w64 hw) (w65 hw) (w66 hw) (by decide) (a := b2) (argsL := []) (CtrN.back (Wd := 1) W2 (rm6 l Z a0 hw gCS b2 h2 W2.old SgCS NgCS A2 Fb2_value Fb2_coder Fb2_count gz2) (w66 hw) (w63 hw) (by decide) (by decide)) (by rw [hml]; rfl) (lenOf pd6 rfl) (S := [(.ref b2)]) rfl (by exact Nat.le_of_eq rfl) (pc' := 19) (hb hy d11_16) rfl (cells' := 2) (slots' := 20) rfl rfl (by decide) (by decide) (wy := [b2]) (fun _ _ _ q => ⟨q.1, q.2.1⟩) (allS ⟨gz2, (Or.inr gb2)⟩ all0) (fun _ K => IW.keep K (sfS (Safe.exa W2.al A2 (by decide) (by decide)) sf0) W2.inv) ?_
  intro v3 T3 h3 lo3 W3 K3 q3
  obtain ⟨r1_3, r2_3, P3_0, P3_1, P3_2, P3_3, P3_4, rfl⟩ := q3.2.2
  show Gl _ _ _ _ _ _ _ _ [(.ref b2)]
  refine o_ldcR W3 (w79 hw) (own_wS hw) (own_EL hw) (by simp [consts_1]) (pc' := 21) (hb hy d11_19) rfl (n := 36) (by decide) (by decide) (cells' := 4) (slots' := 60) rfl rfl (by decide) (by decide) (vs := [(.int (StrChars.lo8 (105 : Int32))), (.int (StrChars.lo8 (110 : Int32))), (.int (StrChars.lo8 (118 : Int32))), (.int (StrChars.lo8 (97 : Int32))), (.int (StrChars.lo8 (108 : Int32))), (.int (StrChars.lo8 (105 : Int32))), (.int (StrChars.lo8 (100 : Int32))), (.int (StrChars.lo8 (58 : Int32))), (.int (StrChars.lo8 (32 : Int32)))]) (z := (9 : Int32)) ⟨by decide, by decide⟩ (by decide) (by decide) ?_
  intro s4 T4 h4 V4 t4 k4 W4 E4 C4 X4 Fc4 Fv4 A4 ns4
  have c5 := (P3_3.ext E4)
  have c6 := (P3_1.ext E4)
  have c7 := (P3_4.ext E4)
  have c8 := (P3_2.ext E4)
  have c9 := ((A2.keep K3).ext E4)
  refine o_virtual W4 (y := (⟨"java/lang/StringBuilder", "append", "(Ljava/lang/String;)Ljava/lang/StringBuilder;"⟩ : MethodName)) (z := (⟨"java/lang/StringBuilder", "append", "(Ljava/lang/String;)Ljava/lang/StringBuilder;"⟩ : MethodName)) (w80 hw) (w81 hw) (o_nf W4 rfl (w83 hw)) (w83 hw) (w82 hw) (by decide) c9 (argsL := [(.ref s4)]) (CtrN.back (Wd := 0) W4 (rm14 l Z a0 hw gCS b2 s4 t4 k4 r1_3 r2_3 h4 W4.old X4 Fv4 A4 SgCS NgCS Fc4 c5 c9 c6 c7 c8 (Nat.le_trans W2.zs P3_0) gz2) (w84 hw) (w63 hw) (by decide) (by decide)) (by rw [hml]; rfl) (lenOf pd12 rfl) (S := []) rfl (by exact Nat.le_of_eq rfl) (pc' := 24) (hb hy d11_21) rfl (cells' := 4) (slots' := 60) rfl rfl (by decide) (by decide) (wy := [b2, r1_3]) (fun _ _ _ q => ⟨q.1, q.2.1⟩) (allS ⟨gz2, (Or.inr gb2)⟩ (allS ⟨(Nat.le_trans W2.zs P3_0), (Or.inr (Nat.le_trans W2.keep.1 P3_0))⟩ all0)) (fun _ K => IW.keep K (sfS (Safe.exa W4.al c9 (by decide) (by decide)) (sfS (own_safeB W4.2.2.2.1 (n := 16) (by decide) (own_EL16 hw) c7) sf0)) W4.inv) ?_
  intro v10 T10 h10 lo10 W10 K10 q10
  obtain ⟨P10_0, P10_1, P10_2, P10_3, rfl⟩ := q10.2.2
  show Gl _ _ _ _ _ _ _ _ [(.ref b2)]
  refine o_aloadN W10 (pc' := 25) (hb hy d11_24) rfl rfl rfl ?_
  have c11 := (F_a1_reason.ext E2)
  have c12 := ((((F_a1_reason.ext E2).keep K3 (ninS (own_ne F_a1_reason.lt ge2) nin0)).ext E4).keep K10 (ninS (own_ne F_a1_reason.lt ge2) (ninS (own_ne c11.lt P3_0) nin0)))
  refine o_getF W10 (w49 hw) Via.refl c12 (pc' := 28) (hb hy d11_25) rfl ?_
  intro T13 W13
  have c14 := ((((E_a2.ext E2).keep K3).ext E4).keep K10)
  have c15 := (E_a2.ext E2)
  have c16 := ((((F_a2_value.ext E2).keep K3 (ninS (own_ne E_a2.lt ge2) nin0)).ext E4).keep K10 (ninS (own_ne E_a2.lt ge2) (ninS (own_ne c15.lt P3_0) nin0)))
  have c17 := (V_a3.ext E2)
  have c18 := ((((V_a3.ext E2).keep K3 (ninS (own_ne V_a3.lt ge2) nin0)).ext E4).keep K10 (ninS (own_ne V_a3.lt ge2) (ninS (own_ne c17.lt P3_0) nin0)))
  have c19 := ((((F_a2_coder.ext E2).keep K3 (ninS (own_ne E_a2.lt ge2) nin0)).ext E4).keep K10 (ninS (own_ne E_a2.lt ge2) (ninS (own_ne c15.lt P3_0) nin0)))
  have c20 := (c9.keep K10)
  refine o_virtual W13 (y := (⟨"java/lang/StringBuilder", "append", "(Ljava/lang/String;)Ljava/lang/StringBuilder;"⟩ : MethodName)) (z := (⟨"java/lang/StringBuilder", "append", "(Ljava/lang/String;)Ljava/lang/StringBuilder;"⟩ : MethodName)) (w80 hw) (w81 hw) (o_nf W13 rfl (w83 hw)) (w83 hw) (w82 hw) (by decide) c20 (argsL := [(.ref a2)]) (CtrN.back (Wd := 0) W13 (rm20 l Z a0 hw gCS b2 a2 a3 k_a3 x1 x2 x3 r1_3 r2_3 (StrChars.lo8 (105 : Int32)) (StrChars.lo8 (110 : Int32)) (StrChars.lo8 (118 : Int32)) (StrChars.lo8 (97 : Int32)) (StrChars.lo8 (108 : Int32)) (StrChars.lo8 (100 : Int32)) (StrChars.lo8 (58 : Int32)) (StrChars.lo8 (32 : Int32)) h10 W13.old c14 c16 c18 SgCS NgCS c19 P10_0 c20 P10_1 P10_2 P10_3 (Nat.le_trans W2.zs P3_0) gz2) (w84 hw) (w63 hw) (by decide) (by decide)) (by rw [hml]; rfl) (lenOf pd12 rfl) (S := []) rfl (by exact Nat.le_of_eq rfl) (pc' := 31) (hb hy d11_28) rfl (cells' := 4) (slots' := 60) rfl rfl (by decide) (by decide) (wy := [b2, r1_3]) (fun _ _ _ q => ⟨q.1, q.2.1⟩) (allS ⟨gz2, (Or.inr gb2)⟩ (allS ⟨(Nat.le_trans W2.zs P3_0), (Or.inr (Nat.le_trans W2.keep.1 P3_0))⟩ all0)) (fun _ K => IW.keep K (sfS (Safe.exa W13.al c20 (by decide) (by decide)) (sfS (own_safeB W13.2.2.2.1 (n := 16) (by decide) (own_EL16 hw) P10_2) sf0)) W13.inv) ?_
  intro v21 T21 h21 lo21 W21 K21 q21
  obtain ⟨P21_0, P21_1, P21_2, P21_3, rfl⟩ := q21.2.2
  show Gl _ _ _ _ _ _ _ _ [(.ref b2)]
  have c22 := (c20.keep K21)
  refine o_virtual W21 (y := (⟨"java/lang/StringBuilder", "toString", "()Ljava/lang/String;"⟩ : MethodName)) (z := (⟨"java/lang/StringBuilder", "toString", "()Ljava/lang/String;"⟩ : MethodName)) (w127 hw) (w128 hw) (o_nf W21 rfl (w130 hw)) (w130 hw) (w129 hw) (by decide) c22 (argsL := []) (CtrN.back (Wd := 0) W21 (rm31 l Z a0 hw gCS b2 r1_3 r2_3 (StrChars.lo8 (105 : Int32)) (StrChars.lo8 (110 : Int32)) (StrChars.lo8 (118 : Int32)) (StrChars.lo8 (97 : Int32)) (StrChars.lo8 (108 : Int32)) (StrChars.lo8 (100 : Int32)) (StrChars.lo8 (58 : Int32)) (StrChars.lo8 (32 : Int32)) (StrChars.lo8 x1) (StrChars.lo8 x2) (StrChars.lo8 x3) h21 W21.old c22 P21_1 P21_0 SgCS NgCS P21_3 P21_2) (w131 hw) (w63 hw) (by decide) (by decide)) (by rw [hml]; rfl) (lenOf pd19 rfl) (S := []) rfl (by exact Nat.le_of_eq rfl) (pc' := 34) (hb hy d11_31) rfl (cells' := 6) (slots' := 76) rfl rfl (by decide) (by decide) (wy := []) (fun _ _ _ q => ⟨q.1, q.2.1⟩) all0 (fun _ K => IW.keep K sf0 W21.inv) ?_
  intro v23 T23 h23 lo23 W23 K23 q23
  obtain ⟨r1_23, r2_23, r3_23, P23_0, P23_1, P23_2, P23_3, P23_4, P23_5, rfl⟩ := q23.2.2
  show Gl _ _ _ _ _ _ _ _ [(.ref r1_23)]
  exact o_retAW W23 (own_EL hw) hlk (v := (.ref r1_23)) hret rfl rfl (hb hy d11_34) (by decide) (by decide) ⟨r1_23, r2_23, r3_23, (Nat.le_trans W21.keep.1 P23_0), (Nat.le_trans W21.keep.1 P23_1), P23_2, P23_3, P23_4, P23_5, rfl⟩
theorem rm33 (l : Launch) (Z : State) (a0 : Array Value) (hw : ∀ d ∈ tables_1, d.before a0 Z = true) (a1 a2 : Addr) (k_a1 : ClassId) (x1 x2 x3 x4 x5 x6 x7 x8 x9 x10 x11 : Int32) (k_a2 : ClassId) (x12 x13 x14 : Int32) (h0 : Heap) (O0 : Old Z Z.heap.size h0) (V_a1 : Arv Z h0 a1 k_a1 .byte (12 : Int32) [(.int x1), (.int x2), (.int x3), (.int x4), (.int x5), (.int x1), (.int x6), (.int x7), (.int x8), (.int x9), (.int x10), (.int x11)] (.int 0)) (V_a2 : Arv Z h0 a2 k_a2 .byte (12 : Int32) [(.int (StrChars.lo8 (105 : Int32))), (.int (StrChars.lo8 (110 : Int32))), (.int (StrChars.lo8 (118 : Int32))), (.int (StrChars.lo8 (97 : Int32))), (.int (StrChars.lo8 (108 : Int32))), (.int (StrChars.lo8 (105 : Int32))), (.int (StrChars.lo8 (100 : Int32))), (.int (StrChars.lo8 (58 : Int32))), (.int (StrChars.lo8 (32 : Int32))), (.int (StrChars.lo8 x12)), (.int (StrChars.lo8 x13)), (.int (StrChars.lo8 x14))] (.int 0)) (hc1 : x1 = (StrChars.lo8 (105 : Int32))) (hc2 : x2 = (StrChars.lo8 (110 : Int32))) (hc3 : x3 = (StrChars.lo8 (118 : Int32))) (hc4 : x4 = (StrChars.lo8 (97 : Int32))) (hc5 : x5 = (StrChars.lo8 (108 : Int32))) (hc6 : x6 = (StrChars.lo8 (100 : Int32))) (hc7 : x7 = (StrChars.lo8 (58 : Int32))) (hc8 : x8 = (StrChars.lo8 (32 : Int32))) (hc9 : x9 = (StrChars.lo8 x12)) (hc10 : x10 = (StrChars.lo8 x13)) (hc11 : x11 = (StrChars.lo8 x14)) :
    CtrN l Z (⟨"java/lang/StringLatin1", "equals", "([B[B)Z"⟩ : MethodName) jdk_43_method_13_code 3 (some .boolean) [] (⟨0, 0, 0, 0⟩ : Room) #[(.ref a1), (.ref a2)] h0 [] (fun v h => v = some (.int 1)) := by
  refine CtrN.intro (L0 := #[.val (.ref a1), .val (.ref a2), .unset]) (plainFor_of_name pn6) O0 (own_entry rfl) ?_
  intro p e s m below meth c T0 hy hml hret hlk hnm W0
  refine o_aloadN W0 (pc' := 1) (hb hy d34_0) rfl rfl rfl ?_
  refine o_len W0 V_a1 (pc' := 2) (hb hy d34_1) rfl ?_
  refine o_aloadN W0 (pc' := 3) (hb hy d34_2) rfl rfl rfl ?_
  refine o_len W0 V_a2 (pc' := 4) (hb hy d34_3) rfl ?_
  refine o_icmpN W0 (pc' := 7) (hb hy d34_4) (XT.ii_ne_f (by decide)) rfl ?_
  refine o_iconst W0 (v := 0) (pc' := 8) (hb hy d34_7) rfl rfl ?_
  refine o_istoreN W0 (L' := #[.val (.ref a1), .val (.ref a2), .val (.int 0)]) (pc' := 9) (hb hy d34_8) rfl rfl ?_
  refine o_iloadN W0 (pc' := 10) (hb hy d34_9) rfl rfl ?_
  refine o_aloadN W0 (pc' := 11) (hb hy d34_10) rfl rfl rfl ?_
  refine o_len W0 V_a1 (pc' := 12) (hb hy d34_11) rfl ?_
  refine o_icmpN W0 (pc' := 15) (hb hy d34_12) (XT.ii_ge_f (by decide)) rfl ?_
  refine o_aloadN W0 (pc' := 16) (hb hy d34_15) rfl rfl rfl ?_
  refine o_iloadN W0 (pc' := 17) (hb hy d34_16) rfl rfl ?_
  refine o_baload W0 V_a1 (x := x1) (i := 0) (by decide) (by decide) (by decide) rfl (pc' := 18) (hb hy d34_17) rfl ?_
  refine o_aloadN W0 (pc' := 19) (hb hy d34_18) rfl rfl rfl ?_
  refine o_iloadN W0 (pc' := 20) (hb hy d34_19) rfl rfl ?_
  refine o_baload W0 V_a2 (x := (StrChars.lo8 (105 : Int32))) (i := 0) (by decide) (by decide) (by decide) rfl (pc' := 21) (hb hy d34_20) rfl ?_
  refine o_icmpY W0 (pc' := 26) (hb hy d34_21) (XT.ii_eq_t hc1) (by decide) rfl ?_
  refine o_iinc W0 (v := 1) (L' := #[.val (.ref a1), .val (.ref a2), .val (.int 1)]) (pc' := 29) (hb hy d34_26) rfl (by decide) rfl rfl ?_
  refine o_goto W0 (pc' := 9) (hb hy d34_29) (by decide) rfl ?_
  refine o_iloadN W0 (pc' := 10) (hb hy d34_9) rfl rfl ?_
  refine o_aloadN W0 (pc' := 11) (hb hy d34_10) rfl rfl rfl ?_
  refine o_len W0 V_a1 (pc' := 12) (hb hy d34_11) rfl ?_
  refine o_icmpN W0 (pc' := 15) (hb hy d34_12) (XT.ii_ge_f (by decide)) rfl ?_
  refine o_aloadN W0 (pc' := 16) (hb hy d34_15) rfl rfl rfl ?_
  refine o_iloadN W0 (pc' := 17) (hb hy d34_16) rfl rfl ?_
  refine o_baload W0 V_a1 (x := x2) (i := 1) (by decide) (by decide) (by decide) rfl (pc' := 18) (hb hy d34_17) rfl ?_
  refine o_aloadN W0 (pc' := 19) (hb hy d34_18) rfl rfl rfl ?_
  refine o_iloadN W0 (pc' := 20) (hb hy d34_19) rfl rfl ?_
  refine o_baload W0 V_a2 (x := (StrChars.lo8 (110 : Int32))) (i := 1) (by decide) (by decide) (by decide) rfl (pc' := 21) (hb hy d34_20) rfl ?_
  refine o_icmpY W0 (pc' := 26) (hb hy d34_21) (XT.ii_eq_t hc2) (by decide) rfl ?_
  refine o_iinc W0 (v := 2) (L' := #[.val (.ref a1), .val (.ref a2), .val (.int 2)]) (pc' := 29) (hb hy d34_26) rfl (by decide) rfl rfl ?_
  refine o_goto W0 (pc' := 9) (hb hy d34_29) (by decide) rfl ?_
  refine o_iloadN W0 (pc' := 10) (hb hy d34_9) rfl rfl ?_
  refine o_aloadN W0 (pc' := 11) (hb hy d34_10) rfl rfl rfl ?_
  refine o_len W0 V_a1 (pc' := 12) (hb hy d34_11) rfl ?_
  refine o_icmpN W0 (pc' := 15) (hb hy d34_12) (XT.ii_ge_f (by decide)) rfl ?_
  refine o_aloadN W0 (pc' := 16) (hb hy d34_15) rfl rfl rfl ?_
  refine o_iloadN W0 (pc' := 17) (hb hy d34_16) rfl rfl ?_
  refine o_baload W0 V_a1 (x := x3) (i := 2) (by decide) (by decide) (by decide) rfl (pc' := 18) (hb hy d34_17) rfl ?_
  refine o_aloadN W0 (pc' := 19) (hb hy d34_18) rfl rfl rfl ?_
  refine o_iloadN W0 (pc' := 20) (hb hy d34_19) rfl rfl ?_
  refine o_baload W0 V_a2 (x := (StrChars.lo8 (118 : Int32))) (i := 2) (by decide) (by decide) (by decide) rfl (pc' := 21) (hb hy d34_20) rfl ?_
  refine o_icmpY W0 (pc' := 26) (hb hy d34_21) (XT.ii_eq_t hc3) (by decide) rfl ?_
  refine o_iinc W0 (v := 3) (L' := #[.val (.ref a1), .val (.ref a2), .val (.int 3)]) (pc' := 29) (hb hy d34_26) rfl (by decide) rfl rfl ?_
  refine o_goto W0 (pc' := 9) (hb hy d34_29) (by decide) rfl ?_
  refine o_iloadN W0 (pc' := 10) (hb hy d34_9) rfl rfl ?_
  refine o_aloadN W0 (pc' := 11) (hb hy d34_10) rfl rfl rfl ?_
  refine o_len W0 V_a1 (pc' := 12) (hb hy d34_11) rfl ?_
  refine o_icmpN W0 (pc' := 15) (hb hy d34_12) (XT.ii_ge_f (by decide)) rfl ?_
  refine o_aloadN W0 (pc' := 16) (hb hy d34_15) rfl rfl rfl ?_
  refine o_iloadN W0 (pc' := 17) (hb hy d34_16) rfl rfl ?_
  refine o_baload W0 V_a1 (x := x4) (i := 3) (by decide) (by decide) (by decide) rfl (pc' := 18) (hb hy d34_17) rfl ?_
  refine o_aloadN W0 (pc' := 19) (hb hy d34_18) rfl rfl rfl ?_
  refine o_iloadN W0 (pc' := 20) (hb hy d34_19) rfl rfl ?_
  refine o_baload W0 V_a2 (x := (StrChars.lo8 (97 : Int32))) (i := 3) (by decide) (by decide) (by decide) rfl (pc' := 21) (hb hy d34_20) rfl ?_
  refine o_icmpY W0 (pc' := 26) (hb hy d34_21) (XT.ii_eq_t hc4) (by decide) rfl ?_
  refine o_iinc W0 (v := 4) (L' := #[.val (.ref a1), .val (.ref a2), .val (.int 4)]) (pc' := 29) (hb hy d34_26) rfl (by decide) rfl rfl ?_
  refine o_goto W0 (pc' := 9) (hb hy d34_29) (by decide) rfl ?_
  refine o_iloadN W0 (pc' := 10) (hb hy d34_9) rfl rfl ?_
  refine o_aloadN W0 (pc' := 11) (hb hy d34_10) rfl rfl rfl ?_
  refine o_len W0 V_a1 (pc' := 12) (hb hy d34_11) rfl ?_
  refine o_icmpN W0 (pc' := 15) (hb hy d34_12) (XT.ii_ge_f (by decide)) rfl ?_
  refine o_aloadN W0 (pc' := 16) (hb hy d34_15) rfl rfl rfl ?_
  refine o_iloadN W0 (pc' := 17) (hb hy d34_16) rfl rfl ?_
  refine o_baload W0 V_a1 (x := x5) (i := 4) (by decide) (by decide) (by decide) rfl (pc' := 18) (hb hy d34_17) rfl ?_
  refine o_aloadN W0 (pc' := 19) (hb hy d34_18) rfl rfl rfl ?_
  refine o_iloadN W0 (pc' := 20) (hb hy d34_19) rfl rfl ?_
  refine o_baload W0 V_a2 (x := (StrChars.lo8 (108 : Int32))) (i := 4) (by decide) (by decide) (by decide) rfl (pc' := 21) (hb hy d34_20) rfl ?_
  refine o_icmpY W0 (pc' := 26) (hb hy d34_21) (XT.ii_eq_t hc5) (by decide) rfl ?_
  refine o_iinc W0 (v := 5) (L' := #[.val (.ref a1), .val (.ref a2), .val (.int 5)]) (pc' := 29) (hb hy d34_26) rfl (by decide) rfl rfl ?_
  refine o_goto W0 (pc' := 9) (hb hy d34_29) (by decide) rfl ?_
  refine o_iloadN W0 (pc' := 10) (hb hy d34_9) rfl rfl ?_
  refine o_aloadN W0 (pc' := 11) (hb hy d34_10) rfl rfl rfl ?_
  refine o_len W0 V_a1 (pc' := 12) (hb hy d34_11) rfl ?_
  refine o_icmpN W0 (pc' := 15) (hb hy d34_12) (XT.ii_ge_f (by decide)) rfl ?_
  refine o_aloadN W0 (pc' := 16) (hb hy d34_15) rfl rfl rfl ?_
  refine o_iloadN W0 (pc' := 17) (hb hy d34_16) rfl rfl ?_
  refine o_baload W0 V_a1 (x := x1) (i := 5) (by decide) (by decide) (by decide) rfl (pc' := 18) (hb hy d34_17) rfl ?_
  refine o_aloadN W0 (pc' := 19) (hb hy d34_18) rfl rfl rfl ?_
  refine o_iloadN W0 (pc' := 20) (hb hy d34_19) rfl rfl ?_
  refine o_baload W0 V_a2 (x := (StrChars.lo8 (105 : Int32))) (i := 5) (by decide) (by decide) (by decide) rfl (pc' := 21) (hb hy d34_20) rfl ?_
  refine o_icmpY W0 (pc' := 26) (hb hy d34_21) (XT.ii_eq_t hc1) (by decide) rfl ?_
  refine o_iinc W0 (v := 6) (L' := #[.val (.ref a1), .val (.ref a2), .val (.int 6)]) (pc' := 29) (hb hy d34_26) rfl (by decide) rfl rfl ?_
  refine o_goto W0 (pc' := 9) (hb hy d34_29) (by decide) rfl ?_
  refine o_iloadN W0 (pc' := 10) (hb hy d34_9) rfl rfl ?_
  refine o_aloadN W0 (pc' := 11) (hb hy d34_10) rfl rfl rfl ?_
  refine o_len W0 V_a1 (pc' := 12) (hb hy d34_11) rfl ?_
  refine o_icmpN W0 (pc' := 15) (hb hy d34_12) (XT.ii_ge_f (by decide)) rfl ?_
  refine o_aloadN W0 (pc' := 16) (hb hy d34_15) rfl rfl rfl ?_
  refine o_iloadN W0 (pc' := 17) (hb hy d34_16) rfl rfl ?_
  refine o_baload W0 V_a1 (x := x6) (i := 6) (by decide) (by decide) (by decide) rfl (pc' := 18) (hb hy d34_17) rfl ?_
  refine o_aloadN W0 (pc' := 19) (hb hy d34_18) rfl rfl rfl ?_
  refine o_iloadN W0 (pc' := 20) (hb hy d34_19) rfl rfl ?_
  refine o_baload W0 V_a2 (x := (StrChars.lo8 (100 : Int32))) (i := 6) (by decide) (by decide) (by decide) rfl (pc' := 21) (hb hy d34_20) rfl ?_
  refine o_icmpY W0 (pc' := 26) (hb hy d34_21) (XT.ii_eq_t hc6) (by decide) rfl ?_
  refine o_iinc W0 (v := 7) (L' := #[.val (.ref a1), .val (.ref a2), .val (.int 7)]) (pc' := 29) (hb hy d34_26) rfl (by decide) rfl rfl ?_
  refine o_goto W0 (pc' := 9) (hb hy d34_29) (by decide) rfl ?_
  refine o_iloadN W0 (pc' := 10) (hb hy d34_9) rfl rfl ?_
  refine o_aloadN W0 (pc' := 11) (hb hy d34_10) rfl rfl rfl ?_
  refine o_len W0 V_a1 (pc' := 12) (hb hy d34_11) rfl ?_
  refine o_icmpN W0 (pc' := 15) (hb hy d34_12) (XT.ii_ge_f (by decide)) rfl ?_
  refine o_aloadN W0 (pc' := 16) (hb hy d34_15) rfl rfl rfl ?_
  refine o_iloadN W0 (pc' := 17) (hb hy d34_16) rfl rfl ?_
  refine o_baload W0 V_a1 (x := x7) (i := 7) (by decide) (by decide) (by decide) rfl (pc' := 18) (hb hy d34_17) rfl ?_
  refine o_aloadN W0 (pc' := 19) (hb hy d34_18) rfl rfl rfl ?_
  refine o_iloadN W0 (pc' := 20) (hb hy d34_19) rfl rfl ?_
  refine o_baload W0 V_a2 (x := (StrChars.lo8 (58 : Int32))) (i := 7) (by decide) (by decide) (by decide) rfl (pc' := 21) (hb hy d34_20) rfl ?_
  refine o_icmpY W0 (pc' := 26) (hb hy d34_21) (XT.ii_eq_t hc7) (by decide) rfl ?_
  refine o_iinc W0 (v := 8) (L' := #[.val (.ref a1), .val (.ref a2), .val (.int 8)]) (pc' := 29) (hb hy d34_26) rfl (by decide) rfl rfl ?_
  refine o_goto W0 (pc' := 9) (hb hy d34_29) (by decide) rfl ?_
  refine o_iloadN W0 (pc' := 10) (hb hy d34_9) rfl rfl ?_
  refine o_aloadN W0 (pc' := 11) (hb hy d34_10) rfl rfl rfl ?_
  refine o_len W0 V_a1 (pc' := 12) (hb hy d34_11) rfl ?_
  refine o_icmpN W0 (pc' := 15) (hb hy d34_12) (XT.ii_ge_f (by decide)) rfl ?_
  refine o_aloadN W0 (pc' := 16) (hb hy d34_15) rfl rfl rfl ?_
  refine o_iloadN W0 (pc' := 17) (hb hy d34_16) rfl rfl ?_
  refine o_baload W0 V_a1 (x := x8) (i := 8) (by decide) (by decide) (by decide) rfl (pc' := 18) (hb hy d34_17) rfl ?_
  refine o_aloadN W0 (pc' := 19) (hb hy d34_18) rfl rfl rfl ?_
  refine o_iloadN W0 (pc' := 20) (hb hy d34_19) rfl rfl ?_
  refine o_baload W0 V_a2 (x := (StrChars.lo8 (32 : Int32))) (i := 8) (by decide) (by decide) (by decide) rfl (pc' := 21) (hb hy d34_20) rfl ?_
  refine o_icmpY W0 (pc' := 26) (hb hy d34_21) (XT.ii_eq_t hc8) (by decide) rfl ?_
  refine o_iinc W0 (v := 9) (L' := #[.val (.ref a1), .val (.ref a2), .val (.int 9)]) (pc' := 29) (hb hy d34_26) rfl (by decide) rfl rfl ?_
  refine o_goto W0 (pc' := 9) (hb hy d34_29) (by decide) rfl ?_
  refine o_iloadN W0 (pc' := 10) (hb hy d34_9) rfl rfl ?_
  refine o_aloadN W0 (pc' := 11) (hb hy d34_10) rfl rfl rfl ?_
  refine o_len W0 V_a1 (pc' := 12) (hb hy d34_11) rfl ?_
  refine o_icmpN W0 (pc' := 15) (hb hy d34_12) (XT.ii_ge_f (by decide)) rfl ?_
  refine o_aloadN W0 (pc' := 16) (hb hy d34_15) rfl rfl rfl ?_
  refine o_iloadN W0 (pc' := 17) (hb hy d34_16) rfl rfl ?_
  refine o_baload W0 V_a1 (x := x9) (i := 9) (by decide) (by decide) (by decide) rfl (pc' := 18) (hb hy d34_17) rfl ?_
  refine o_aloadN W0 (pc' := 19) (hb hy d34_18) rfl rfl rfl ?_
  refine o_iloadN W0 (pc' := 20) (hb hy d34_19) rfl rfl ?_
  refine o_baload W0 V_a2 (x := (StrChars.lo8 x12)) (i := 9) (by decide) (by decide) (by decide) rfl (pc' := 21) (hb hy d34_20) rfl ?_
  refine o_icmpY W0 (pc' := 26) (hb hy d34_21) (XT.ii_eq_t hc9) (by decide) rfl ?_
  refine o_iinc W0 (v := 10) (L' := #[.val (.ref a1), .val (.ref a2), .val (.int 10)]) (pc' := 29) (hb hy d34_26) rfl (by decide) rfl rfl ?_
  refine o_goto W0 (pc' := 9) (hb hy d34_29) (by decide) rfl ?_
  refine o_iloadN W0 (pc' := 10) (hb hy d34_9) rfl rfl ?_
  refine o_aloadN W0 (pc' := 11) (hb hy d34_10) rfl rfl rfl ?_
  refine o_len W0 V_a1 (pc' := 12) (hb hy d34_11) rfl ?_
  refine o_icmpN W0 (pc' := 15) (hb hy d34_12) (XT.ii_ge_f (by decide)) rfl ?_
  refine o_aloadN W0 (pc' := 16) (hb hy d34_15) rfl rfl rfl ?_
  refine o_iloadN W0 (pc' := 17) (hb hy d34_16) rfl rfl ?_
  refine o_baload W0 V_a1 (x := x10) (i := 10) (by decide) (by decide) (by decide) rfl (pc' := 18) (hb hy d34_17) rfl ?_
  refine o_aloadN W0 (pc' := 19) (hb hy d34_18) rfl rfl rfl ?_
  refine o_iloadN W0 (pc' := 20) (hb hy d34_19) rfl rfl ?_
  refine o_baload W0 V_a2 (x := (StrChars.lo8 x13)) (i := 10) (by decide) (by decide) (by decide) rfl (pc' := 21) (hb hy d34_20) rfl ?_
  refine o_icmpY W0 (pc' := 26) (hb hy d34_21) (XT.ii_eq_t hc10) (by decide) rfl ?_
  refine o_iinc W0 (v := 11) (L' := #[.val (.ref a1), .val (.ref a2), .val (.int 11)]) (pc' := 29) (hb hy d34_26) rfl (by decide) rfl rfl ?_
  refine o_goto W0 (pc' := 9) (hb hy d34_29) (by decide) rfl ?_
  refine o_iloadN W0 (pc' := 10) (hb hy d34_9) rfl rfl ?_
  refine o_aloadN W0 (pc' := 11) (hb hy d34_10) rfl rfl rfl ?_
  refine o_len W0 V_a1 (pc' := 12) (hb hy d34_11) rfl ?_
  refine o_icmpN W0 (pc' := 15) (hb hy d34_12) (XT.ii_ge_f (by decide)) rfl ?_
  refine o_aloadN W0 (pc' := 16) (hb hy d34_15) rfl rfl rfl ?_
  refine o_iloadN W0 (pc' := 17) (hb hy d34_16) rfl rfl ?_
  refine o_baload W0 V_a1 (x := x11) (i := 11) (by decide) (by decide) (by decide) rfl (pc' := 18) (hb hy d34_17) rfl ?_
  refine o_aloadN W0 (pc' := 19) (hb hy d34_18) rfl rfl rfl ?_
  refine o_iloadN W0 (pc' := 20) (hb hy d34_19) rfl rfl ?_
  refine o_baload W0 V_a2 (x := (StrChars.lo8 x14)) (i := 11) (by decide) (by decide) (by decide) rfl (pc' := 21) (hb hy d34_20) rfl ?_
  refine o_icmpY W0 (pc' := 26) (hb hy d34_21) (XT.ii_eq_t hc11) (by decide) rfl ?_
  refine o_iinc W0 (v := 12) (L' := #[.val (.ref a1), .val (.ref a2), .val (.int 12)]) (pc' := 29) (hb hy d34_26) rfl (by decide) rfl rfl ?_
  refine o_goto W0 (pc' := 9) (hb hy d34_29) (by decide) rfl ?_
  refine o_iloadN W0 (pc' := 10) (hb hy d34_9) rfl rfl ?_
  refine o_aloadN W0 (pc' := 11) (hb hy d34_10) rfl rfl rfl ?_
  refine o_len W0 V_a1 (pc' := 12) (hb hy d34_11) rfl ?_
  refine o_icmpY W0 (pc' := 32) (hb hy d34_12) (XT.ii_ge_t (by decide)) (by decide) rfl ?_
  refine o_iconst W0 (v := 1) (pc' := 33) (hb hy d34_32) rfl rfl ?_
  exact o_retN W0 hlk (t := .boolean) hret (by simp) (z' := (1 : Int32)) (by decide) (hb hy d34_33) (by decide) (by decide) rfl
theorem rm34 (l : Launch) (Z : State) (a0 : Array Value) (hw : ∀ d ∈ tables_1, d.before a0 Z = true) (gCS : Int32) (a1 a2 a3 a4 : Addr) (k_a3 : ClassId) (x1 x2 x3 x4 x5 x6 x7 x8 x9 x10 x11 : Int32) (k_a4 : ClassId) (x12 x13 x14 : Int32) (h0 : Heap) (O0 : Old Z Z.heap.size h0) (E_a1 : Exa Z h0 a1 "java/lang/String") (E_a2 : Exa Z h0 a2 "java/lang/String") (ne_a1_a2 : a1 ≠ a2) (SgCS : Sta Z Z.heap "java/lang/String" "COMPACT_STRINGS" "Z" (.int gCS)) (NgCS : ¬ (gCS = (0 : Int32))) (F_a1_coder : Fld Z h0 a1 "java/lang/String" "coder" "B" (.int 0)) (F_a2_coder : Fld Z h0 a2 "java/lang/String" "coder" "B" (.int 0)) (F_a1_value : Fld Z h0 a1 "java/lang/String" "value" "[B" (.ref a3)) (F_a2_value : Fld Z h0 a2 "java/lang/String" "value" "[B" (.ref a4)) (V_a3 : Arv Z h0 a3 k_a3 .byte (12 : Int32) [(.int x1), (.int x2), (.int x3), (.int x4), (.int x5), (.int x1), (.int x6), (.int x7), (.int x8), (.int x9), (.int x10), (.int x11)] (.int 0)) (V_a4 : Arv Z h0 a4 k_a4 .byte (12 : Int32) [(.int (StrChars.lo8 (105 : Int32))), (.int (StrChars.lo8 (110 : Int32))), (.int (StrChars.lo8 (118 : Int32))), (.int (StrChars.lo8 (97 : Int32))), (.int (StrChars.lo8 (108 : Int32))), (.int (StrChars.lo8 (105 : Int32))), (.int (StrChars.lo8 (100 : Int32))), (.int (StrChars.lo8 (58 : Int32))), (.int (StrChars.lo8 (32 : Int32))), (.int (StrChars.lo8 x12)), (.int (StrChars.lo8 x13)), (.int (StrChars.lo8 x14))] (.int 0)) (hc8 : x1 = (StrChars.lo8 (105 : Int32))) (hc9 : x2 = (StrChars.lo8 (110 : Int32))) (hc10 : x3 = (StrChars.lo8 (118 : Int32))) (hc11 : x4 = (StrChars.lo8 (97 : Int32))) (hc12 : x5 = (StrChars.lo8 (108 : Int32))) (hc13 : x6 = (StrChars.lo8 (100 : Int32))) (hc14 : x7 = (StrChars.lo8 (58 : Int32))) (hc15 : x8 = (StrChars.lo8 (32 : Int32))) (hc16 : x9 = (StrChars.lo8 x12)) (hc17 : x10 = (StrChars.lo8 x13)) (hc18 : x11 = (StrChars.lo8 x14)) :
    CtrN l Z (⟨"java/lang/String", "equals", "(Ljava/lang/Object;)Z"⟩ : MethodName) jdk_42_method_66_code 3 (some .boolean) [] (⟨1, 0, 0, 14⟩ : Room) #[(.ref a1), (.ref a2)] h0 [] (fun v h => v = some (.int 1)) := by
  refine CtrN.intro (L0 := #[.val (.ref a1), .val (.ref a2), .unset]) (plainFor_of_name pn4) O0 (own_entry rfl) ?_
  intro p e s m below meth c T0 hy hml hret hlk hnm W0
  refine o_aloadN W0 (pc' := 1) (hb hy d33_0) rfl rfl rfl ?_
  refine o_aloadN W0 (pc' := 2) (hb hy d33_1) rfl rfl rfl ?_
  refine o_acmpY W0 (pc' := 7) (hb hy d33_2) rfl rfl (XT.aa_ne_t (fun q => ne_a1_a2 (Value.ref.inj q))) (by decide) rfl ?_
  refine o_aloadN W0 (pc' := 8) (hb hy d33_7) rfl rfl rfl ?_
  refine o_instY W0 (w177 hw) (Ins.self E_a2) (pc' := 11) (hb hy d33_8) rfl ?_
  intro T1 W1
  refine o_ifN W1 (pc' := 14) (hb hy d33_11) (XT.i0_eq_f (by decide)) rfl ?_
  refine o_aloadN W1 (pc' := 15) (hb hy d33_14) rfl rfl rfl ?_
  refine o_cast W1 (w177 hw) (Ins.self E_a2) (pc' := 18) (hb hy d33_15) rfl ?_
  intro T2 W2
  refine o_astoreN W2 (L' := #[.val (.ref a1), .val (.ref a2), .val (.ref a2)]) (pc' := 19) (hb hy d33_18) rfl rfl rfl ?_
  refine o_getS W2 (w22 hw) Via.refl (SgCS.ext W2.ox) (pc' := 22) (hb hy d33_19) rfl ?_
  intro T3 W3
  refine o_ifN W3 (pc' := 25) (hb hy d33_22) (XT.i0_eq_f NgCS) rfl ?_
  refine o_aloadN W3 (pc' := 26) (hb hy d33_25) rfl rfl rfl ?_
  refine o_getF W3 (w21 hw) Via.refl F_a1_coder (pc' := 29) (hb hy d33_26) rfl ?_
  intro T4 W4
  refine o_aloadN W4 (pc' := 30) (hb hy d33_29) rfl rfl rfl ?_
  refine o_getF W4 (w21 hw) Via.refl F_a2_coder (pc' := 33) (hb hy d33_30) rfl ?_
  intro T5 W5
  refine o_icmpN W5 (pc' := 36) (hb hy d33_33) (XT.ii_ne_f (by decide)) rfl ?_
  refine o_aloadN W5 (pc' := 37) (hb hy d33_36) rfl rfl rfl ?_
  refine o_getF W5 (w20 hw) Via.refl F_a1_value (pc' := 40) (hb hy d33_37) rfl ?_
  intro T6 W6
  refine o_aloadN W6 (pc' := 41) (hb hy d33_40) rfl rfl rfl ?_
  refine o_getF W6 (w20 hw) Via.refl F_a2_value (pc' := 44) (hb hy d33_41) rfl ?_
  intro T7 W7
  refine o_static W7 (y := (⟨"java/lang/StringLatin1", "equals", "([B[B)Z"⟩ : MethodName)) (w178 hw) (w179 hw) (w180 hw) (w181 hw) (by decide) (argsL := [(.ref a3), (.ref a4)]) (CtrN.back (Wd := 0) W7 (rm33 l Z a0 hw a3 a4 k_a3 x1 x2 x3 x4 x5 x6 x7 x8 x9 x10 x11 k_a4 x12 x13 x14 h0 W7.old V_a3 V_a4 hc8 hc9 hc10 hc11 hc12 hc13 hc14 hc15 hc16 hc17 hc18) (w181 hw) (w180 hw) (by decide) (by decide)) (by rw [hml]; rfl) (lenOf pd20 rfl) (S := []) rfl (by exact Nat.le_of_eq rfl) (pc' := 47) (hb hy d33_44) rfl (cells' := 0) (slots' := 0) rfl rfl (by decide) (by decide) (wy := []) (fun _ _ _ q => ⟨q.1, q.2.1⟩) all0 (fun _ _ => trivial) ?_
  intro v19 T19 h19 lo19 W19 K19 q19
  obtain rfl := q19.2.2
  show Gl _ _ _ _ _ _ _ _ [(.int 1)]
  refine o_ifN W19 (pc' := 50) (hb hy d33_47) (XT.i0_eq_f (by decide)) rfl ?_
  refine o_iconst W19 (v := 1) (pc' := 51) (hb hy d33_50) rfl rfl ?_
  refine o_goto W19 (pc' := 55) (hb hy d33_51) (by decide) rfl ?_
  exact o_retN W19 hlk (t := .boolean) hret (by simp) (z' := (1 : Int32)) (by decide) (hb hy d33_55) (by decide) (by decide) rfl
theorem rm35 (l : Launch) (Z : State) (a0 : Array Value) (hw : ∀ d ∈ tables_1, d.before a0 Z = true) (gCS : Int32) (a1 a2 : Addr) (k_a2 : ClassId) (x1 x2 : Int32) (h0 : Heap) (O0 : Old Z Z.heap.size h0) (F_a1_value : Fld Z h0 a1 "java/lang/String" "value" "[B" (.ref a2)) (V_a2 : Arv Z h0 a2 k_a2 .byte (2 : Int32) [(.int (StrChars.lo8 x1)), (.int (StrChars.lo8 x2))] (.int 0)) (E_a1 : Exa Z h0 a1 "java/lang/String") (SgCS : Sta Z Z.heap "java/lang/String" "COMPACT_STRINGS" "Z" (.int gCS)) (NgCS : ¬ (gCS = (0 : Int32))) (F_a1_coder : Fld Z h0 a1 "java/lang/String" "coder" "B" (.int 0)) :
    CtrN l Z (⟨"java/lang/String", "length", "()I"⟩ : MethodName) jdk_42_method_54_code 1 (some .int) [] (⟨1, 0, 0, 13⟩ : Room) #[(.ref a1)] h0 [] (fun v h => v = some (.int 2)) := by
  refine CtrN.intro (L0 := #[.val (.ref a1)]) (plainFor_of_name pn4) O0 (own_entry rfl) ?_
  intro p e s m below meth c T0 hy hml hret hlk hnm W0
  refine o_aloadN W0 (pc' := 1) (hb hy d16_0) rfl rfl rfl ?_
  refine o_getF W0 (w20 hw) Via.refl F_a1_value (pc' := 4) (hb hy d16_1) rfl ?_
  intro T1 W1
  refine o_len W1 V_a2 (pc' := 5) (hb hy d16_4) rfl ?_
  refine o_aloadN W1 (pc' := 6) (hb hy d16_5) rfl rfl rfl ?_
  refine o_virtual W1 (y := (⟨"java/lang/String", "coder", "()B"⟩ : MethodName)) (z := (⟨"java/lang/String", "coder", "()B"⟩ : MethodName)) (w95 hw) (w96 hw) (o_nf W1 rfl (w98 hw)) (w98 hw) (w97 hw) (by decide) E_a1 (argsL := []) (CtrN.back (Wd := 1) W1 (rm7 l Z a0 hw gCS a1 h0 W1.old SgCS NgCS F_a1_coder) (w99 hw) (w3 hw) (by decide) (by decide)) (by rw [hml]; rfl) (lenOf pd7 rfl) (S := [(.int 2)]) rfl (by exact Nat.le_of_eq rfl) (pc' := 9) (hb hy d16_6) rfl (cells' := 0) (slots' := 0) rfl rfl (by decide) (by decide) (wy := []) (fun _ _ _ q => ⟨q.1, q.2.1⟩) all0 (fun _ _ => trivial) ?_
  intro v2 T2 h2 lo2 W2 K2 q2
  obtain rfl := q2.2.2
  show Gl _ _ _ _ _ _ _ _ [(.int 0), (.int 2)]
  refine o_ishr W2 (v := 2) (pc' := 10) (hb hy d16_9) (by decide) rfl ?_
  exact o_retI W2 hlk hret (hb hy d16_10) (by decide) (by decide) rfl
theorem rm36 (l : Launch) (Z : State) (a0 : Array Value) (hw : ∀ d ∈ tables_1, d.before a0 Z = true) (a1 a2 : Addr) (k_a2 : ClassId) (x1 x2 x3 x4 x5 x6 x7 x8 : Int32) (h0 : Heap) (O0 : Old Z Z.heap.size h0) (F_a1_value : Fld Z h0 a1 "java/lang/AbstractStringBuilder" "value" "[B" (.ref a2)) (V_a2 : Arv Z h0 a2 k_a2 .byte (16 : Int32) [(.int x1), (.int x2), (.int x3), (.int x4), (.int x5), (.int x1), (.int x6), (.int x7), (.int x8), (.int 0), (.int 0), (.int 0), (.int 0), (.int 0), (.int 0), (.int 0)] (.int 0)) (F_a1_coder : Fld Z h0 a1 "java/lang/AbstractStringBuilder" "coder" "B" (.int 0)) :
    CtrN l Z (⟨"java/lang/AbstractStringBuilder", "ensureCapacityInternal", "(I)V"⟩ : MethodName) jdk_68_method_9_code 3 none [] (⟨0, 0, 0, 0⟩ : Room) #[(.ref a1), (.int 11)] h0 [] (fun v h => v = none) := by
  refine CtrN.intro (L0 := #[.val (.ref a1), .val (.int 11), .unset]) (plainFor_of_name pn2) O0 (own_entry rfl) ?_
  intro p e s m below meth c T0 hy hml hret hlk hnm W0
  refine o_aloadN W0 (pc' := 1) (hb hy d18_0) rfl rfl rfl ?_
  refine o_getF W0 (w75 hw) Via.refl F_a1_value (pc' := 4) (hb hy d18_1) rfl ?_
  intro T1 W1
  refine o_len W1 V_a2 (pc' := 5) (hb hy d18_4) rfl ?_
  refine o_aloadN W1 (pc' := 6) (hb hy d18_5) rfl rfl rfl ?_
  refine o_getF W1 (w77 hw) Via.refl F_a1_coder (pc' := 9) (hb hy d18_6) rfl ?_
  intro T2 W2
  refine o_ishr W2 (v := 16) (pc' := 10) (hb hy d18_9) (by decide) rfl ?_
  refine o_istoreN W2 (L' := #[.val (.ref a1), .val (.int 11), .val (.int 16)]) (pc' := 11) (hb hy d18_10) rfl rfl ?_
  refine o_iloadN W2 (pc' := 12) (hb hy d18_11) rfl rfl ?_
  refine o_iloadN W2 (pc' := 13) (hb hy d18_12) rfl rfl ?_
  refine o_isub W2 (v := (-5 : Int32)) (pc' := 14) (hb hy d18_13) (by decide) rfl ?_
  refine o_ifY W2 (pc' := 38) (hb hy d18_14) (XT.i0_le_t (by decide)) (by decide) rfl ?_
  exact o_ret0 W2 hlk hret (hb hy d18_38) (by decide) (by decide) rfl
theorem rm37 (l : Launch) (Z : State) (a0 : Array Value) (hw : ∀ d ∈ tables_1, d.before a0 Z = true) (gCS : Int32) (a1 a2 a3 : Addr) (k_a3 : ClassId) (x1 x2 : Int32) (k_a2 : ClassId) (x3 x4 x5 x6 x7 x8 x9 x10 : Int32) (h0 : Heap) (O0 : Old Z Z.heap.size h0) (E_a1 : Exa Z h0 a1 "java/lang/String") (SgCS : Sta Z Z.heap "java/lang/String" "COMPACT_STRINGS" "Z" (.int gCS)) (NgCS : ¬ (gCS = (0 : Int32))) (F_a1_coder : Fld Z h0 a1 "java/lang/String" "coder" "B" (.int 0)) (F_a1_value : Fld Z h0 a1 "java/lang/String" "value" "[B" (.ref a3)) (V_a3 : Arv Z h0 a3 k_a3 .byte (2 : Int32) [(.int (StrChars.lo8 x1)), (.int (StrChars.lo8 x2))] (.int 0)) (V_a2 : Arv Z h0 a2 k_a2 .byte (16 : Int32) [(.int x3), (.int x4), (.int x5), (.int x6), (.int x7), (.int x3), (.int x8), (.int x9), (.int x10), (.int 0), (.int 0), (.int 0), (.int 0), (.int 0), (.int 0), (.int 0)] (.int 0)) (g_a2 : Z.heap.size ≤ a2) :
    CtrN l Z (⟨"java/lang/String", "getBytes", "([BIB)V"⟩ : MethodName) jdk_42_method_147_code 4 none [] (⟨1, 0, 0, 27⟩ : Room) #[(.ref a1), (.ref a2), (.int 9), (.int 0)] h0 [a2] (fun v h => Arv Z h a2 k_a2 .byte (16 : Int32) [(.int x3), (.int x4), (.int x5), (.int x6), (.int x7), (.int x3), (.int x8), (.int x9), (.int x10), (.int (StrChars.lo8 x1)), (.int (StrChars.lo8 x2)), (.int 0), (.int 0), (.int 0), (.int 0), (.int 0)] (.int 0) ∧ v = none) := by
  refine CtrN.intro (L0 := #[.val (.ref a1), .val (.ref a2), .val (.int 9), .val (.int 0)]) (plainFor_of_name pn4) O0 (own_entry rfl) ?_
  intro p e s m below meth c T0 hy hml hret hlk hnm W0
  refine o_aloadN W0 (pc' := 1) (hb hy d21_0) rfl rfl rfl ?_
  refine o_virtual W0 (y := (⟨"java/lang/String", "coder", "()B"⟩ : MethodName)) (z := (⟨"java/lang/String", "coder", "()B"⟩ : MethodName)) (w95 hw) (w96 hw) (o_nf W0 rfl (w98 hw)) (w98 hw) (w97 hw) (by decide) E_a1 (argsL := []) (CtrN.back (Wd := 0) W0 (rm7 l Z a0 hw gCS a1 h0 W0.old SgCS NgCS F_a1_coder) (w99 hw) (w3 hw) (by decide) (by decide)) (by rw [hml]; rfl) (lenOf pd7 rfl) (S := []) rfl (by exact Nat.le_of_eq rfl) (pc' := 4) (hb hy d21_1) rfl (cells' := 0) (slots' := 0) rfl rfl (by decide) (by decide) (wy := []) (fun _ _ _ q => ⟨q.1, q.2.1⟩) all0 (fun _ _ => trivial) ?_
  intro v1 T1 h1 lo1 W1 K1 q1
  obtain rfl := q1.2.2
  show Gl _ _ _ _ _ _ _ _ [(.int 0)]
  refine o_iloadN W1 (pc' := 5) (hb hy d21_4) rfl rfl ?_
  refine o_icmpN W1 (pc' := 8) (hb hy d21_5) (XT.ii_ne_f (by decide)) rfl ?_
  refine o_aloadN W1 (pc' := 9) (hb hy d21_8) rfl rfl rfl ?_
  have c2 := (F_a1_value.keep K1 nin0)
  refine o_getF W1 (w20 hw) Via.refl c2 (pc' := 12) (hb hy d21_9) rfl ?_
  intro T3 W3
  refine o_iconst W3 (v := 0) (pc' := 13) (hb hy d21_12) rfl rfl ?_
  refine o_aloadN W3 (pc' := 14) (hb hy d21_13) rfl rfl rfl ?_
  refine o_iloadN W3 (pc' := 15) (hb hy d21_14) rfl rfl ?_
  refine o_iloadN W3 (pc' := 16) (hb hy d21_15) rfl rfl ?_
  refine o_ishl W3 (v := 9) (pc' := 17) (hb hy d21_16) (by decide) rfl ?_
  refine o_aloadN W3 (pc' := 18) (hb hy d21_17) rfl rfl rfl ?_
  refine o_getF W3 (w20 hw) Via.refl c2 (pc' := 21) (hb hy d21_18) rfl ?_
  intro T4 W4
  have c5 := (V_a3.keep K1 nin0)
  refine o_len W4 c5 (pc' := 22) (hb hy d21_21) rfl ?_
  have c6 := (V_a2.keep K1 nin0)
  refine o_copy W4 (w123 hw) (w126 hw) (w124 hw) (w125 hw) c5 c6 (us := [(.int (StrChars.lo8 x1)), (.int (StrChars.lo8 x2))]) (Or.inl ⟨rfl, rfl⟩) (by decide) (by decide) (by decide) (by decide) (by decide) rfl (Nat.le_of_ble_eq_true rfl) (vd' := [(.int x3), (.int x4), (.int x5), (.int x6), (.int x7), (.int x3), (.int x8), (.int x9), (.int x10), (.int (StrChars.lo8 x1)), (.int (StrChars.lo8 x2)), (.int 0), (.int 0), (.int 0), (.int 0), (.int 0)]) rfl g_a2 (Or.inl (List.mem_of_getElem? (i := 0) rfl)) (fun _ _ => trivial) (by rw [hml]; rfl) (pc' := 25) (hb hy d21_22) rfl (by decide) 0 (by exact Nat.le_of_eq rfl) (by decide) ?_
  intro T7 h7 lo7 W7 K7 V7
  refine o_goto W7 (pc' := 43) (hb hy d21_25) (by decide) rfl ?_
  exact o_ret0 W7 hlk hret (hb hy d21_43) (by decide) (by decide) ⟨V7, rfl⟩
theorem rm38 (l : Launch) (Z : State) (a0 : Array Value) (hw : ∀ d ∈ tables_1, d.before a0 Z = true) (gCS : Int32) (a1 a2 a3 a4 : Addr) (k_a4 : ClassId) (x1 x2 : Int32) (k_a3 : ClassId) (x3 x4 x5 x6 x7 x8 x9 x10 : Int32) (h0 : Heap) (O0 : Old Z Z.heap.size h0) (E_a1 : Exa Z h0 a1 "java/lang/StringBuilder") (SgCS : Sta Z Z.heap "java/lang/String" "COMPACT_STRINGS" "Z" (.int gCS)) (NgCS : ¬ (gCS = (0 : Int32))) (F_a1_coder : Fld Z h0 a1 "java/lang/AbstractStringBuilder" "coder" "B" (.int 0)) (E_a2 : Exa Z h0 a2 "java/lang/String") (F_a2_coder : Fld Z h0 a2 "java/lang/String" "coder" "B" (.int 0)) (F_a1_value : Fld Z h0 a1 "java/lang/AbstractStringBuilder" "value" "[B" (.ref a3)) (F_a2_value : Fld Z h0 a2 "java/lang/String" "value" "[B" (.ref a4)) (V_a4 : Arv Z h0 a4 k_a4 .byte (2 : Int32) [(.int (StrChars.lo8 x1)), (.int (StrChars.lo8 x2))] (.int 0)) (V_a3 : Arv Z h0 a3 k_a3 .byte (16 : Int32) [(.int x3), (.int x4), (.int x5), (.int x6), (.int x7), (.int x3), (.int x8), (.int x9), (.int x10), (.int 0), (.int 0), (.int 0), (.int 0), (.int 0), (.int 0), (.int 0)] (.int 0)) (g_a3 : Z.heap.size ≤ a3) :
    CtrN l Z (⟨"java/lang/AbstractStringBuilder", "putStringAt", "(ILjava/lang/String;)V"⟩ : MethodName) jdk_68_method_73_code 3 none [] (⟨2, 0, 0, 42⟩ : Room) #[(.ref a1), (.int 9), (.ref a2)] h0 [a3] (fun v h => Arv Z h a3 k_a3 .byte (16 : Int32) [(.int x3), (.int x4), (.int x5), (.int x6), (.int x7), (.int x3), (.int x8), (.int x9), (.int x10), (.int (StrChars.lo8 x1)), (.int (StrChars.lo8 x2)), (.int 0), (.int 0), (.int 0), (.int 0), (.int 0)] (.int 0) ∧ v = none) := by
  refine CtrN.intro (L0 := #[.val (.ref a1), .val (.int 9), .val (.ref a2)]) (plainFor_of_name pn2) O0 (own_entry rfl) ?_
  intro p e s m below meth c T0 hy hml hret hlk hnm W0
  refine o_aloadN W0 (pc' := 1) (hb hy d19_0) rfl rfl rfl ?_
  refine o_aloadN W0 (pc' := 2) (hb hy d19_1) rfl rfl rfl ?_
  refine o_private W0 (y := (⟨"java/lang/AbstractStringBuilder", "inflateIfNeededFor", "(Ljava/lang/String;)V"⟩ : MethodName)) (w112 hw) (w113 hw) (w115 hw) (w114 hw) (w116 hw) (by decide) E_a1 (argsL := [(.ref a2)]) (CtrN.back (Wd := 0) W0 (rm10 l Z a0 hw gCS a1 a2 h0 W0.old SgCS NgCS F_a1_coder E_a2 F_a2_coder) (w116 hw) (w71 hw) (by decide) (by decide)) (by rw [hml]; rfl) (lenOf pd2 rfl) (S := []) rfl (by exact Nat.le_of_eq rfl) (pc' := 5) (hb hy d19_2) rfl (cells' := 0) (slots' := 0) rfl rfl (by decide) (by decide) (wy := []) (fun _ _ _ q => ⟨q.1, q.2.1⟩) all0 (fun _ _ => trivial) ?_
  intro v1 T1 h1 lo1 W1 K1 q1
  obtain rfl := q1.2.2
  show Gl _ _ _ _ _ _ _ _ []
  refine o_aloadN W1 (pc' := 6) (hb hy d19_5) rfl rfl rfl ?_
  refine o_aloadN W1 (pc' := 7) (hb hy d19_6) rfl rfl rfl ?_
  have c2 := (F_a1_value.keep K1 nin0)
  refine o_getF W1 (w75 hw) Via.refl c2 (pc' := 10) (hb hy d19_7) rfl ?_
  intro T3 W3
  refine o_iloadN W3 (pc' := 11) (hb hy d19_10) rfl rfl ?_
  refine o_aloadN W3 (pc' := 12) (hb hy d19_11) rfl rfl rfl ?_
  have c4 := (F_a1_coder.keep K1 nin0)
  refine o_getF W3 (w77 hw) Via.refl c4 (pc' := 15) (hb hy d19_12) rfl ?_
  intro T5 W5
  have c6 := (F_a2_coder.keep K1 nin0)
  have c7 := (F_a2_value.keep K1 nin0)
  have c8 := (V_a4.keep K1 nin0)
  have c9 := (V_a3.keep K1 nin0)
  have c10 := (E_a2.keep K1)
  refine o_virtual W5 (y := (⟨"java/lang/String", "getBytes", "([BIB)V"⟩ : MethodName)) (z := (⟨"java/lang/String", "getBytes", "([BIB)V"⟩ : MethodName)) (w118 hw) (w119 hw) (o_nf W5 rfl (w121 hw)) (w121 hw) (w120 hw) (by decide) c10 (argsL := [(.ref a3), (.int 9), (.int 0)]) (CtrN.back (Wd := 0) W5 (rm37 l Z a0 hw gCS a2 a3 a4 k_a4 x1 x2 k_a3 x3 x4 x5 x6 x7 x8 x9 x10 h1 W5.old c10 SgCS NgCS c6 c7 c8 c9 g_a3) (w122 hw) (w3 hw) (by decide) (by decide)) (by rw [hml]; rfl) (lenOf pd9 rfl) (S := []) rfl (by exact Nat.le_of_eq rfl) (pc' := 18) (hb hy d19_15) rfl (cells' := 0) (slots' := 0) rfl rfl (by decide) (by decide) (wy := [a3]) (fun _ _ _ q => ⟨q.1, q.2.1⟩) (allS ⟨g_a3, (Or.inl (List.mem_of_getElem? (i := 0) rfl))⟩ all0) (fun _ _ => trivial) ?_
  intro v11 T11 h11 lo11 W11 K11 q11
  obtain ⟨P11_0, rfl⟩ := q11.2.2
  show Gl _ _ _ _ _ _ _ _ []
  exact o_ret0 W11 hlk hret (hb hy d19_18) (by decide) (by decide) ⟨P11_0, rfl⟩
theorem rm39 (l : Launch) (Z : State) (a0 : Array Value) (hw : ∀ d ∈ tables_1, d.before a0 Z = true) (gCS : Int32) (a1 a2 a3 : Addr) (k_a3 : ClassId) (x1 x2 : Int32) (a4 : Addr) (k_a4 : ClassId) (x3 x4 x5 x6 x7 x8 x9 x10 : Int32) (h0 : Heap) (O0 : Old Z Z.heap.size h0) (E_a2 : Exa Z h0 a2 "java/lang/String") (F_a2_value : Fld Z h0 a2 "java/lang/String" "value" "[B" (.ref a3)) (V_a3 : Arv Z h0 a3 k_a3 .byte (2 : Int32) [(.int (StrChars.lo8 x1)), (.int (StrChars.lo8 x2))] (.int 0)) (SgCS : Sta Z Z.heap "java/lang/String" "COMPACT_STRINGS" "Z" (.int gCS)) (NgCS : ¬ (gCS = (0 : Int32))) (F_a2_coder : Fld Z h0 a2 "java/lang/String" "coder" "B" (.int 0)) (F_a1_count : Fld Z h0 a1 "java/lang/AbstractStringBuilder" "count" "I" (.int 9)) (E_a1 : Exa Z h0 a1 "java/lang/StringBuilder") (F_a1_value : Fld Z h0 a1 "java/lang/AbstractStringBuilder" "value" "[B" (.ref a4)) (V_a4 : Arv Z h0 a4 k_a4 .byte (16 : Int32) [(.int x3), (.int x4), (.int x5), (.int x6), (.int x7), (.int x3), (.int x8), (.int x9), (.int x10), (.int 0), (.int 0), (.int 0), (.int 0), (.int 0), (.int 0), (.int 0)] (.int 0)) (F_a1_coder : Fld Z h0 a1 "java/lang/AbstractStringBuilder" "coder" "B" (.int 0)) (g_a4 : Z.heap.size ≤ a4) (g_a1 : Z.heap.size ≤ a1) :
    CtrN l Z (⟨"java/lang/AbstractStringBuilder", "append", "(Ljava/lang/String;)Ljava/lang/AbstractStringBuilder;"⟩ : MethodName) jdk_68_method_22_code 3 (some (.object "java/lang/AbstractStringBuilder")) [] (⟨3, 0, 0, 56⟩ : Room) #[(.ref a1), (.ref a2)] h0 [a4, a1] (fun v h => Fld Z h a1 "java/lang/AbstractStringBuilder" "count" "I" (.int 11) ∧ Fld Z h a1 "java/lang/AbstractStringBuilder" "value" "[B" (.ref a4) ∧ Arv Z h a4 k_a4 .byte (16 : Int32) [(.int x3), (.int x4), (.int x5), (.int x6), (.int x7), (.int x3), (.int x8), (.int x9), (.int x10), (.int (StrChars.lo8 x1)), (.int (StrChars.lo8 x2)), (.int 0), (.int 0), (.int 0), (.int 0), (.int 0)] (.int 0) ∧ Fld Z h a1 "java/lang/AbstractStringBuilder" "coder" "B" (.int 0) ∧ v = some (.ref a1)) := by
  refine CtrN.intro (L0 := #[.val (.ref a1), .val (.ref a2), .unset]) (plainFor_of_name pn2) O0 (own_entry rfl) ?_
  intro p e s m below meth c T0 hy hml hret hlk hnm W0
  refine o_aloadN W0 (pc' := 1) (hb hy d15_0) rfl rfl rfl ?_
  refine o_ifnonnullY W0 (pc' := 9) (hb hy d15_1) (by decide) rfl ?_
  refine o_aloadN W0 (pc' := 10) (hb hy d15_9) rfl rfl rfl ?_
  refine o_virtual W0 (y := (⟨"java/lang/String", "length", "()I"⟩ : MethodName)) (z := (⟨"java/lang/String", "length", "()I"⟩ : MethodName)) (w90 hw) (w91 hw) (o_nf W0 rfl (w93 hw)) (w93 hw) (w92 hw) (by decide) E_a2 (argsL := []) (CtrN.back (Wd := 0) W0 (rm35 l Z a0 hw gCS a2 a3 k_a3 x1 x2 h0 W0.old F_a2_value V_a3 E_a2 SgCS NgCS F_a2_coder) (w94 hw) (w3 hw) (by decide) (by decide)) (by rw [hml]; rfl) (lenOf pd8 rfl) (S := []) rfl (by exact Nat.le_of_eq rfl) (pc' := 13) (hb hy d15_10) rfl (cells' := 0) (slots' := 0) rfl rfl (by decide) (by decide) (wy := []) (fun _ _ _ q => ⟨q.1, q.2.1⟩) all0 (fun _ _ => trivial) ?_
  intro v1 T1 h1 lo1 W1 K1 q1
  obtain rfl := q1.2.2
  show Gl _ _ _ _ _ _ _ _ [(.int 2)]
  refine o_istoreN W1 (L' := #[.val (.ref a1), .val (.ref a2), .val (.int 2)]) (pc' := 14) (hb hy d15_13) rfl rfl ?_
  refine o_aloadN W1 (pc' := 15) (hb hy d15_14) rfl rfl rfl ?_
  refine o_aloadN W1 (pc' := 16) (hb hy d15_15) rfl rfl rfl ?_
  have c2 := (F_a1_count.keep K1 nin0)
  refine o_getF W1 (w100 hw) Via.refl c2 (pc' := 19) (hb hy d15_16) rfl ?_
  intro T3 W3
  refine o_iloadN W3 (pc' := 20) (hb hy d15_19) rfl rfl ?_
  refine o_iadd W3 (v := 11) (pc' := 21) (hb hy d15_20) (by decide) rfl ?_
  have c4 := (E_a1.keep K1)
  have c5 := (F_a1_value.keep K1 nin0)
  have c6 := (V_a4.keep K1 nin0)
  have c7 := (F_a1_coder.keep K1 nin0)
  refine o_private W3 (y := (⟨"java/lang/AbstractStringBuilder", "ensureCapacityInternal", "(I)V"⟩ : MethodName)) (w102 hw) (w103 hw) (w105 hw) (w104 hw) (w106 hw) (by decide) c4 (argsL := [(.int 11)]) (CtrN.back (Wd := 0) W3 (rm36 l Z a0 hw a1 a4 k_a4 x3 x4 x5 x6 x7 x8 x9 x10 h1 W3.old c5 c6 c7) (w106 hw) (w71 hw) (by decide) (by decide)) (by rw [hml]; rfl) (lenOf pd5 rfl) (S := []) rfl (by exact Nat.le_of_eq rfl) (pc' := 24) (hb hy d15_21) rfl (cells' := 0) (slots' := 0) rfl rfl (by decide) (by decide) (wy := []) (fun _ _ _ q => ⟨q.1, q.2.1⟩) all0 (fun _ _ => trivial) ?_
  intro v8 T8 h8 lo8 W8 K8 q8
  obtain rfl := q8.2.2
  show Gl _ _ _ _ _ _ _ _ []
  refine o_aloadN W8 (pc' := 25) (hb hy d15_24) rfl rfl rfl ?_
  refine o_aloadN W8 (pc' := 26) (hb hy d15_25) rfl rfl rfl ?_
  have c9 := (c2.keep K8 nin0)
  refine o_getF W8 (w100 hw) Via.refl c9 (pc' := 29) (hb hy d15_26) rfl ?_
  intro T10 W10
  refine o_aloadN W10 (pc' := 30) (hb hy d15_29) rfl rfl rfl ?_
  have c11 := (c7.keep K8 nin0)
  have c12 := ((F_a2_coder.keep K1 nin0).keep K8 nin0)
  have c13 := (c5.keep K8 nin0)
  have c14 := ((F_a2_value.keep K1 nin0).keep K8 nin0)
  have c15 := ((V_a3.keep K1 nin0).keep K8 nin0)
  have c16 := (c6.keep K8 nin0)
  have c17 := (c4.keep K8)
  have c18 := ((E_a2.keep K1).keep K8)
  refine o_private W10 (y := (⟨"java/lang/AbstractStringBuilder", "putStringAt", "(ILjava/lang/String;)V"⟩ : MethodName)) (w107 hw) (w108 hw) (w110 hw) (w109 hw) (w111 hw) (by decide) c17 (argsL := [(.int 9), (.ref a2)]) (CtrN.back (Wd := 0) W10 (rm38 l Z a0 hw gCS a1 a2 a4 a3 k_a3 x1 x2 k_a4 x3 x4 x5 x6 x7 x8 x9 x10 h8 W10.old c17 SgCS NgCS c11 c18 c12 c13 c14 c15 c16 g_a4) (w111 hw) (w71 hw) (by decide) (by decide)) (by rw [hml]; rfl) (lenOf pd10 rfl) (S := []) rfl (by exact Nat.le_of_eq rfl) (pc' := 33) (hb hy d15_30) rfl (cells' := 0) (slots' := 0) rfl rfl (by decide) (by decide) (wy := [a4]) (fun _ _ _ q => ⟨q.1, q.2.1⟩) (allS ⟨g_a4, (Or.inl (List.mem_of_getElem? (i := 0) rfl))⟩ all0) (fun _ _ => trivial) ?_
  intro v19 T19 h19 lo19 W19 K19 q19
  obtain ⟨P19_0, rfl⟩ := q19.2.2
  show Gl _ _ _ _ _ _ _ _ []
  refine o_aloadN W19 (pc' := 34) (hb hy d15_33) rfl rfl rfl ?_
  refine o_dup W19 (pc' := 35) (hb hy d15_34) rfl rfl ?_
  have c20 := (c17.keep K19)
  have c21 := (c9.keep K19 (ninS (Exa.neArv c17 c16 (w62 hw)) nin0))
  refine o_getF W19 (w100 hw) Via.refl c21 (pc' := 38) (hb hy d15_35) rfl ?_
  intro T22 W22
  refine o_iloadN W22 (pc' := 39) (hb hy d15_38) rfl rfl ?_
  refine o_iadd W22 (v := 11) (pc' := 40) (hb hy d15_39) (by decide) rfl ?_
  refine o_putF W22 (w100 hw) Via.refl c21 c20 (Or.inl (w101 hw)) (w62 hw) (ty := .int) (v' := (.int 11)) (by decide) rfl rfl g_a1 (Or.inl (List.mem_of_getElem? (i := 1) rfl)) (fun _ _ => trivial) (pc' := 43) (hb hy d15_40) rfl ?_
  intro T23 h23 lo23 W23 R23
  have F23 := c21.same R23
  refine o_aloadN W23 (pc' := 44) (hb hy d15_43) rfl rfl rfl ?_
  have c24 := (c20.wr R23)
  have c25 := ((c13.keep K19 (ninS (Exa.neArv c17 c16 (w62 hw)) nin0)).other R23 (Or.inr (slot_ne (Or.inl (w76 hw)) (Or.inl (w101 hw)) (by decide) (t := (.array .byte)) (t' := .int) (by decide) (by decide))))
  have c26 := ((c11.keep K19 (ninS (Exa.neArv c17 c16 (w62 hw)) nin0)).other R23 (Or.inr (slot_ne (Or.inl (w78 hw)) (Or.inl (w101 hw)) (by decide) (t := .byte) (t' := .int) (by decide) (by decide))))
  have c27 := (P19_0.other R23 (Ne.symm (Exa.neArv c20 P19_0 (w62 hw))))
  exact o_retA W23 hlk (v := (.ref a1)) hret rfl rfl (hb hy d15_44) (by decide) (by decide) ⟨F23, c25, c27, c26, rfl⟩
theorem rm40 (l : Launch) (Z : State) (a0 : Array Value) (hw : ∀ d ∈ tables_1, d.before a0 Z = true) (gCS : Int32) (a1 a2 a3 : Addr) (k_a3 : ClassId) (x1 x2 : Int32) (a4 : Addr) (k_a4 : ClassId) (x3 x4 x5 x6 x7 x8 x9 x10 : Int32) (h0 : Heap) (O0 : Old Z Z.heap.size h0) (E_a2 : Exa Z h0 a2 "java/lang/String") (F_a2_value : Fld Z h0 a2 "java/lang/String" "value" "[B" (.ref a3)) (V_a3 : Arv Z h0 a3 k_a3 .byte (2 : Int32) [(.int (StrChars.lo8 x1)), (.int (StrChars.lo8 x2))] (.int 0)) (SgCS : Sta Z Z.heap "java/lang/String" "COMPACT_STRINGS" "Z" (.int gCS)) (NgCS : ¬ (gCS = (0 : Int32))) (F_a2_coder : Fld Z h0 a2 "java/lang/String" "coder" "B" (.int 0)) (F_a1_count : Fld Z h0 a1 "java/lang/AbstractStringBuilder" "count" "I" (.int 9)) (E_a1 : Exa Z h0 a1 "java/lang/StringBuilder") (F_a1_value : Fld Z h0 a1 "java/lang/AbstractStringBuilder" "value" "[B" (.ref a4)) (V_a4 : Arv Z h0 a4 k_a4 .byte (16 : Int32) [(.int x3), (.int x4), (.int x5), (.int x6), (.int x7), (.int x3), (.int x8), (.int x9), (.int x10), (.int 0), (.int 0), (.int 0), (.int 0), (.int 0), (.int 0), (.int 0)] (.int 0)) (F_a1_coder : Fld Z h0 a1 "java/lang/AbstractStringBuilder" "coder" "B" (.int 0)) (g_a4 : Z.heap.size ≤ a4) (g_a1 : Z.heap.size ≤ a1) :
    CtrN l Z (⟨"java/lang/StringBuilder", "append", "(Ljava/lang/String;)Ljava/lang/StringBuilder;"⟩ : MethodName) jdk_67_method_7_code 2 (some (.object "java/lang/StringBuilder")) [] (⟨4, 0, 0, 70⟩ : Room) #[(.ref a1), (.ref a2)] h0 [a1, a4] (fun v h => Fld Z h a1 "java/lang/AbstractStringBuilder" "count" "I" (.int 11) ∧ Fld Z h a1 "java/lang/AbstractStringBuilder" "value" "[B" (.ref a4) ∧ Arv Z h a4 k_a4 .byte (16 : Int32) [(.int x3), (.int x4), (.int x5), (.int x6), (.int x7), (.int x3), (.int x8), (.int x9), (.int x10), (.int (StrChars.lo8 x1)), (.int (StrChars.lo8 x2)), (.int 0), (.int 0), (.int 0), (.int 0), (.int 0)] (.int 0) ∧ Fld Z h a1 "java/lang/AbstractStringBuilder" "coder" "B" (.int 0) ∧ v = some (.ref a1)) := by
  refine CtrN.intro (L0 := #[.val (.ref a1), .val (.ref a2)]) (plainFor_of_name pn3) O0 (own_entry rfl) ?_
  intro p e s m below meth c T0 hy hml hret hlk hnm W0
  refine o_aloadN W0 (pc' := 1) (hb hy d14_0) rfl rfl rfl ?_
  refine o_aloadN W0 (pc' := 2) (hb hy d14_1) rfl rfl rfl ?_
  refine o_super W0 (y := (⟨"java/lang/AbstractStringBuilder", "append", "(Ljava/lang/String;)Ljava/lang/AbstractStringBuilder;"⟩ : MethodName)) (by decide) (w85 hw) (w86 hw) (own_sameN (y := (⟨"java/lang/AbstractStringBuilder", "append", "(Ljava/lang/String;)Ljava/lang/AbstractStringBuilder;"⟩ : MethodName)) (y2 := (⟨"java/lang/AbstractStringBuilder", "ensureCapacityInternal", "(I)V"⟩ : MethodName)) (by decide) (w86 hw) rfl (w103 hw) (w105 hw)) (w87 hw) (w89 hw) (Ins.self E_a1) (argsL := [(.ref a2)]) (CtrN.back (Wd := 0) W0 (rm39 l Z a0 hw gCS a1 a2 a3 k_a3 x1 x2 a4 k_a4 x3 x4 x5 x6 x7 x8 x9 x10 h0 W0.old E_a2 F_a2_value V_a3 SgCS NgCS F_a2_coder F_a1_count E_a1 F_a1_value V_a4 F_a1_coder g_a4 g_a1) (w89 hw) (w71 hw) (by decide) (by decide)) (by rw [hml]; rfl) (lenOf pd11 rfl) (S := []) rfl (by exact Nat.le_of_eq rfl) (pc' := 5) (hb hy d14_2) rfl (cells' := 0) (slots' := 0) rfl rfl (by decide) (by decide) (wy := [a4, a1]) (fun _ _ _ q => ⟨q.1, q.2.1⟩) (allS ⟨g_a4, (Or.inl (List.mem_of_getElem? (i := 1) rfl))⟩ (allS ⟨g_a1, (Or.inl (List.mem_of_getElem? (i := 0) rfl))⟩ all0)) (fun _ _ => trivial) ?_
  intro v1 T1 h1 lo1 W1 K1 q1
  obtain ⟨P1_0, P1_1, P1_2, P1_3, rfl⟩ := q1.2.2
  show Gl _ _ _ _ _ _ _ _ [(.ref a1)]
  refine o_pop W1 (pc' := 6) (hb hy d14_5) rfl rfl ?_
  refine o_aloadN W1 (pc' := 7) (hb hy d14_6) rfl rfl rfl ?_
  have c2 := (E_a1.keep K1)
  exact o_retA W1 hlk (v := (.ref a1)) hret rfl rfl (hb hy d14_7) (by decide) (by decide) ⟨P1_0, P1_1, P1_2, P1_3, rfl⟩
theorem rm41 (l : Launch) (Z : State) (a0 : Array Value) (hw : ∀ d ∈ tables_1, d.before a0 Z = true) (a1 : Addr) (h0 : Heap) (O0 : Old Z Z.heap.size h0) (F_a1_count : Fld Z h0 a1 "java/lang/AbstractStringBuilder" "count" "I" (.int 11)) :
    CtrN l Z (⟨"java/lang/AbstractStringBuilder", "length", "()I"⟩ : MethodName) jdk_68_method_6_code 1 (some .int) [] (⟨0, 0, 0, 0⟩ : Room) #[(.ref a1)] h0 [] (fun v h => v = some (.int 11)) := by
  refine CtrN.intro (L0 := #[.val (.ref a1)]) (plainFor_of_name pn2) O0 (own_entry rfl) ?_
  intro p e s m below meth c T0 hy hml hret hlk hnm W0
  refine o_aloadN W0 (pc' := 1) (hb hy d27_0) rfl rfl rfl ?_
  refine o_getF W0 (w100 hw) Via.refl F_a1_count (pc' := 4) (hb hy d27_1) rfl ?_
  intro T1 W1
  exact o_retI W1 hlk hret (hb hy d27_4) (by decide) (by decide) rfl
theorem rm42 (l : Launch) (Z : State) (a0 : Array Value) (hw : ∀ d ∈ tables_1, d.before a0 Z = true) (a1 : Addr) (h0 : Heap) (O0 : Old Z Z.heap.size h0) (F_a1_count : Fld Z h0 a1 "java/lang/AbstractStringBuilder" "count" "I" (.int 11)) (E_a1 : Exa Z h0 a1 "java/lang/StringBuilder") :
    CtrN l Z (⟨"java/lang/StringBuilder", "length", "()I"⟩ : MethodName) jdk_67_method_93_code 1 (some .int) [] (⟨1, 0, 0, 12⟩ : Room) #[(.ref a1)] h0 [] (fun v h => v = some (.int 11)) := by
  refine CtrN.intro (L0 := #[.val (.ref a1)]) (plainFor_of_name pn3) O0 (own_entry rfl) ?_
  intro p e s m below meth c T0 hy hml hret hlk hnm W0
  refine o_aloadN W0 (pc' := 1) (hb hy d26_0) rfl rfl rfl ?_
  refine o_super W0 (y := (⟨"java/lang/AbstractStringBuilder", "length", "()I"⟩ : MethodName)) (by decide) (w150 hw) (w146 hw) (own_sameN (y := (⟨"java/lang/AbstractStringBuilder", "length", "()I"⟩ : MethodName)) (y2 := (⟨"java/lang/AbstractStringBuilder", "ensureCapacityInternal", "(I)V"⟩ : MethodName)) (by decide) (w146 hw) rfl (w103 hw) (w105 hw)) (w87 hw) (w151 hw) (Ins.self E_a1) (argsL := []) (CtrN.back (Wd := 0) W0 (rm41 l Z a0 hw a1 h0 W0.old F_a1_count) (w151 hw) (w71 hw) (by decide) (by decide)) (by rw [hml]; rfl) (lenOf pd8 rfl) (S := []) rfl (by exact Nat.le_of_eq rfl) (pc' := 4) (hb hy d26_1) rfl (cells' := 0) (slots' := 0) rfl rfl (by decide) (by decide) (wy := []) (fun _ _ _ q => ⟨q.1, q.2.1⟩) all0 (fun _ _ => trivial) ?_
  intro v1 T1 h1 lo1 W1 K1 q1
  obtain rfl := q1.2.2
  show Gl _ _ _ _ _ _ _ _ [(.int 11)]
  exact o_retI W1 hlk hret (hb hy d26_4) (by decide) (by decide) rfl
theorem rm43 (l : Launch) (Z : State) (a0 : Array Value) (hw : ∀ d ∈ tables_1, d.before a0 Z = true)  (h0 : Heap) (O0 : Old Z Z.heap.size h0) :
    CtrN l Z (⟨"java/util/Arrays", "checkLength", "(II)V"⟩ : MethodName) jdk_65_method_131_code 2 none [] (⟨0, 0, 0, 0⟩ : Room) #[(.int 0), (.int 11)] h0 [] (fun v h => v = none) := by
  refine CtrN.intro (L0 := #[.val (.int 0), .val (.int 11)]) (plainFor_of_name pn5) O0 (own_entry rfl) ?_
  intro p e s m below meth c T0 hy hml hret hlk hnm W0
  refine o_iloadN W0 (pc' := 1) (hb hy d31_0) rfl rfl ?_
  refine o_iloadN W0 (pc' := 2) (hb hy d31_1) rfl rfl ?_
  refine o_icmpY W0 (pc' := 37) (hb hy d31_2) (XT.ii_ge_t (by decide)) (by decide) rfl ?_
  exact o_ret0 W0 hlk hret (hb hy d31_37) (by decide) (by decide) rfl
theorem rm44 (l : Launch) (Z : State) (a0 : Array Value) (hw : ∀ d ∈ tables_1, d.before a0 Z = true)  (h0 : Heap) (O0 : Old Z Z.heap.size h0) :
    CtrN l Z (⟨"java/lang/Math", "min", "(II)I"⟩ : MethodName) jdk_29_method_69_code 2 (some .int) [] (⟨0, 0, 0, 0⟩ : Room) #[(.int 16), (.int 11)] h0 [] (fun v h => v = some (.int 11)) := by
  refine CtrN.intro (L0 := #[.val (.int 16), .val (.int 11)]) (Jvm.Free.JP.mathPlain rfl (by decide +kernel)) O0 (own_entry rfl) ?_
  intro p e s m below meth c T0 hy hml hret hlk hnm W0
  refine o_iloadN W0 (pc' := 1) (hb hy d32_0) rfl rfl ?_
  refine o_iloadN W0 (pc' := 2) (hb hy d32_1) rfl rfl ?_
  refine o_icmpY W0 (pc' := 9) (hb hy d32_2) (XT.ii_gt_t (by decide)) (by decide) rfl ?_
  refine o_iloadN W0 (pc' := 10) (hb hy d32_9) rfl rfl ?_
  exact o_retI W0 hlk hret (hb hy d32_10) (by decide) (by decide) rfl
theorem rm45 (l : Launch) (Z : State) (a0 : Array Value) (hw : ∀ d ∈ tables_1, d.before a0 Z = true) (a1 : Addr) (k_a1 : ClassId) (x1 x2 x3 x4 x5 x6 x7 x8 x9 x10 : Int32) (h0 : Heap) (O0 : Old Z Z.heap.size h0) (V_a1 : Arv Z h0 a1 k_a1 .byte (16 : Int32) [(.int x1), (.int x2), (.int x3), (.int x4), (.int x5), (.int x1), (.int x6), (.int x7), (.int x8), (.int x9), (.int x10), (.int 0), (.int 0), (.int 0), (.int 0), (.int 0)] (.int 0)) :
    CtrN l Z (⟨"java/util/Arrays", "copyOfRangeByte", "([BII)[B"⟩ : MethodName) jdk_65_method_133_code 5 (some (.array .byte)) [] (⟨1, 1, 11, 27⟩ : Room) #[(.ref a1), (.int 0), (.int 11)] h0 [] (fun v h => ∃ r1 : Addr, ∃ r2 : ClassId, h0.size ≤ r1 ∧ Arv Z h r1 r2 .byte (11 : Int32) [(.int x1), (.int x2), (.int x3), (.int x4), (.int x5), (.int x1), (.int x6), (.int x7), (.int x8), (.int x9), (.int x10)] (.int 0) ∧ v = some (.ref r1)) := by
  refine CtrN.intro (L0 := #[.val (.ref a1), .val (.int 0), .val (.int 11), .unset, .unset]) (plainFor_of_name pn5) O0 (own_entry rfl) ?_
  intro p e s m below meth c T0 hy hml hret hlk hnm W0
  refine o_iloadN W0 (pc' := 1) (hb hy d30_0) rfl rfl ?_
  refine o_iloadN W0 (pc' := 2) (hb hy d30_1) rfl rfl ?_
  refine o_static W0 (y := (⟨"java/util/Arrays", "checkLength", "(II)V"⟩ : MethodName)) (w164 hw) (w165 hw) (w159 hw) (w166 hw) (by decide) (argsL := [(.int 0), (.int 11)]) (CtrN.back (Wd := 0) W0 (rm43 l Z a0 hw  h0 W0.old ) (w166 hw) (w159 hw) (by decide) (by decide)) (by rw [hml]; rfl) (lenOf pd14 rfl) (S := []) rfl (by exact Nat.le_of_eq rfl) (pc' := 5) (hb hy d30_2) rfl (cells' := 0) (slots' := 0) rfl rfl (by decide) (by decide) (wy := []) (fun _ _ _ q => ⟨q.1, q.2.1⟩) all0 (fun _ _ => trivial) ?_
  intro v1 T1 h1 lo1 W1 K1 q1
  obtain rfl := q1.2.2
  show Gl _ _ _ _ _ _ _ _ []
  refine o_iloadN W1 (pc' := 6) (hb hy d30_5) rfl rfl ?_
  refine o_iloadN W1 (pc' := 7) (hb hy d30_6) rfl rfl ?_
  refine o_isub W1 (v := 11) (pc' := 8) (hb hy d30_7) (by decide) rfl ?_
  refine o_istoreN W1 (L' := #[.val (.ref a1), .val (.int 0), .val (.int 11), .val (.int 11), .unset]) (pc' := 9) (hb hy d30_8) rfl rfl ?_
  refine o_iloadN W1 (pc' := 10) (hb hy d30_9) rfl rfl ?_
  refine o_newP W1 (aty := .byte) (w15 hw) (fun _ _ => trivial) (by decide) (cap := 11) (by decide) (by decide) (pc' := 12) (hb hy d30_10) rfl (cells' := 1) (slots' := 11) rfl rfl (by decide) (by decide) (vs := [(.int 0), (.int 0), (.int 0), (.int 0), (.int 0), (.int 0), (.int 0), (.int 0), (.int 0), (.int 0), (.int 0)]) (dv := (.int 0)) rfl rfl ?_
  intro b2 T2 h2 k2 W2 E2 ge2 gz2 gb2 V2
  refine o_astore W2 (L' := #[.val (.ref a1), .val (.int 0), .val (.int 11), .val (.int 11), .val (.ref b2)]) (pc' := 14) (hb hy d30_12) rfl rfl rfl ?_
  refine o_aloadN W2 (pc' := 15) (hb hy d30_14) rfl rfl rfl ?_
  refine o_iloadN W2 (pc' := 16) (hb hy d30_15) rfl rfl ?_
  refine o_aload W2 (pc' := 18) (hb hy d30_16) rfl rfl rfl ?_
  refine o_iconst W2 (v := 0) (pc' := 19) (hb hy d30_18) rfl rfl ?_
  refine o_aloadN W2 (pc' := 20) (hb hy d30_19) rfl rfl rfl ?_
  have c3 := ((V_a1.keep K1 nin0).ext E2)
  refine o_len W2 c3 (pc' := 21) (hb hy d30_20) rfl ?_
  refine o_iloadN W2 (pc' := 22) (hb hy d30_21) rfl rfl ?_
  refine o_isub W2 (v := 16) (pc' := 23) (hb hy d30_22) (by decide) rfl ?_
  refine o_iloadN W2 (pc' := 24) (hb hy d30_23) rfl rfl ?_
  refine o_static W2 (y := (⟨"java/lang/Math", "min", "(II)I"⟩ : MethodName)) (w167 hw) (w168 hw) (w169 hw) (w170 hw) (by decide) (argsL := [(.int 16), (.int 11)]) (CtrN.back (Wd := 4) W2 (rm44 l Z a0 hw  h2 W2.old ) (w170 hw) (w169 hw) (by decide) (by decide)) (by rw [hml]; rfl) (lenOf pd15 rfl) (S := [(.int 0), (.ref b2), (.int 0), (.ref a1)]) rfl (by exact Nat.le_of_eq rfl) (pc' := 27) (hb hy d30_24) rfl (cells' := 1) (slots' := 11) rfl rfl (by decide) (by decide) (wy := []) (fun _ _ _ q => ⟨q.1, q.2.1⟩) all0 (fun _ _ => trivial) ?_
  intro v4 T4 h4 lo4 W4 K4 q4
  obtain rfl := q4.2.2
  show Gl _ _ _ _ _ _ _ _ [(.int 11), (.int 0), (.ref b2), (.int 0), (.ref a1)]
  have c5 := (c3.keep K4 nin0)
  have c6 := (V2.keep K4 nin0)
  refine o_copy W4 (w171 hw) (w126 hw) (w124 hw) (w125 hw) c5 c6 (us := [(.int x1), (.int x2), (.int x3), (.int x4), (.int x5), (.int x1), (.int x6), (.int x7), (.int x8), (.int x9), (.int x10)]) (Or.inl ⟨rfl, rfl⟩) (by decide) (by decide) (by decide) (by decide) (by decide) rfl (Nat.le_of_ble_eq_true rfl) (vd' := [(.int x1), (.int x2), (.int x3), (.int x4), (.int x5), (.int x1), (.int x6), (.int x7), (.int x8), (.int x9), (.int x10)]) rfl gz2 (Or.inr gb2) (fun _ _ => trivial) (by rw [hml]; rfl) (pc' := 30) (hb hy d30_27) rfl (by decide) 0 (by exact Nat.le_of_eq rfl) (by decide) ?_
  intro T7 h7 lo7 W7 K7 V7
  refine o_aload W7 (pc' := 32) (hb hy d30_30) rfl rfl rfl ?_
  exact o_retA W7 hlk (v := (.ref b2)) hret rfl rfl (hb hy d30_32) (by decide) (by decide) ⟨b2, k2, gb2, V7, rfl⟩
theorem rm46 (l : Launch) (Z : State) (a0 : Array Value) (hw : ∀ d ∈ tables_1, d.before a0 Z = true) (a1 : Addr) (k_a1 : ClassId) (x1 x2 x3 x4 x5 x6 x7 x8 x9 x10 : Int32) (h0 : Heap) (O0 : Old Z Z.heap.size h0) (V_a1 : Arv Z h0 a1 k_a1 .byte (16 : Int32) [(.int x1), (.int x2), (.int x3), (.int x4), (.int x5), (.int x1), (.int x6), (.int x7), (.int x8), (.int x9), (.int x10), (.int 0), (.int 0), (.int 0), (.int 0), (.int 0)] (.int 0)) :
    CtrN l Z (⟨"java/util/Arrays", "copyOfRange", "([BII)[B"⟩ : MethodName) jdk_65_method_132_code 3 (some (.array .byte)) [] (⟨2, 1, 11, 43⟩ : Room) #[(.ref a1), (.int 0), (.int 11)] h0 [] (fun v h => ∃ r1 : Addr, ∃ r2 : ClassId, h0.size ≤ r1 ∧ Arv Z h r1 r2 .byte (11 : Int32) [(.int x1), (.int x2), (.int x3), (.int x4), (.int x5), (.int x1), (.int x6), (.int x7), (.int x8), (.int x9), (.int x10)] (.int 0) ∧ v = some (.ref r1)) := by
  refine CtrN.intro (L0 := #[.val (.ref a1), .val (.int 0), .val (.int 11)]) (plainFor_of_name pn5) O0 (own_entry rfl) ?_
  intro p e s m below meth c T0 hy hml hret hlk hnm W0
  refine o_iloadN W0 (pc' := 1) (hb hy d29_0) rfl rfl ?_
  refine o_ifN W0 (pc' := 4) (hb hy d29_1) (XT.i0_ne_f (by decide)) rfl ?_
  refine o_iloadN W0 (pc' := 5) (hb hy d29_4) rfl rfl ?_
  refine o_aloadN W0 (pc' := 6) (hb hy d29_5) rfl rfl rfl ?_
  refine o_len W0 V_a1 (pc' := 7) (hb hy d29_6) rfl ?_
  refine o_icmpN W0 (pc' := 10) (hb hy d29_7) (XT.ii_eq_f (by decide)) rfl ?_
  refine o_aloadN W0 (pc' := 11) (hb hy d29_10) rfl rfl rfl ?_
  refine o_iloadN W0 (pc' := 12) (hb hy d29_11) rfl rfl ?_
  refine o_iloadN W0 (pc' := 13) (hb hy d29_12) rfl rfl ?_
  refine o_static W0 (y := (⟨"java/util/Arrays", "copyOfRangeByte", "([BII)[B"⟩ : MethodName)) (w161 hw) (w162 hw) (w159 hw) (w163 hw) (by decide) (argsL := [(.ref a1), (.int 0), (.int 11)]) (CtrN.back (Wd := 0) W0 (rm45 l Z a0 hw a1 k_a1 x1 x2 x3 x4 x5 x6 x7 x8 x9 x10 h0 W0.old V_a1) (w163 hw) (w159 hw) (by decide) (by decide)) (by rw [hml]; rfl) (lenOf pd16 rfl) (S := []) rfl (by exact Nat.le_of_eq rfl) (pc' := 16) (hb hy d29_13) rfl (cells' := 1) (slots' := 11) rfl rfl (by decide) (by decide) (wy := []) (fun _ _ _ q => ⟨q.1, q.2.1⟩) all0 (fun _ _ => trivial) ?_
  intro v1 T1 h1 lo1 W1 K1 q1
  obtain ⟨r1_1, r2_1, P1_0, P1_1, rfl⟩ := q1.2.2
  show Gl _ _ _ _ _ _ _ _ [(.ref r1_1)]
  exact o_retA W1 hlk (v := (.ref r1_1)) hret rfl rfl (hb hy d29_16) (by decide) (by decide) ⟨r1_1, r2_1, (Nat.le_trans W0.keep.1 P1_0), P1_1, rfl⟩
theorem rm47 (l : Launch) (Z : State) (a0 : Array Value) (hw : ∀ d ∈ tables_1, d.before a0 Z = true) (gCS : Int32) (a1 a2 a3 : Addr) (k_a3 : ClassId) (x1 x2 x3 x4 x5 x6 x7 x8 x9 x10 : Int32) (h0 : Heap) (O0 : Old Z Z.heap.size h0) (E_a2 : Exa Z h0 a2 "java/lang/StringBuilder") (F_a2_value : Fld Z h0 a2 "java/lang/AbstractStringBuilder" "value" "[B" (.ref a3)) (F_a2_count : Fld Z h0 a2 "java/lang/AbstractStringBuilder" "count" "I" (.int 11)) (SgCS : Sta Z Z.heap "java/lang/String" "COMPACT_STRINGS" "Z" (.int gCS)) (NgCS : ¬ (gCS = (0 : Int32))) (F_a2_coder : Fld Z h0 a2 "java/lang/AbstractStringBuilder" "coder" "B" (.int 0)) (E_a1 : Exa Z h0 a1 "java/lang/String") (F_a1_coder : Fld Z h0 a1 "java/lang/String" "coder" "B" (.int 0)) (g_a1 : Z.heap.size ≤ a1) (V_a3 : Arv Z h0 a3 k_a3 .byte (16 : Int32) [(.int x1), (.int x2), (.int x3), (.int x4), (.int x5), (.int x1), (.int x6), (.int x7), (.int x8), (.int x9), (.int x10), (.int 0), (.int 0), (.int 0), (.int 0), (.int 0)] (.int 0)) (F_a1_value : Fld Z h0 a1 "java/lang/String" "value" "[B" .null) :
    CtrN l Z (⟨"java/lang/String", "<init>", "(Ljava/lang/AbstractStringBuilder;Ljava/lang/Void;)V"⟩ : MethodName) jdk_42_method_150_code 5 none [] (⟨3, 1, 11, 58⟩ : Room) #[(.ref a1), (.ref a2), .null] h0 [a1] (fun v h => ∃ r1 : Addr, ∃ r2 : ClassId, h0.size ≤ r1 ∧ Fld Z h a1 "java/lang/String" "coder" "B" (.int 0) ∧ Fld Z h a1 "java/lang/String" "value" "[B" (.ref r1) ∧ Arv Z h r1 r2 .byte (11 : Int32) [(.int x1), (.int x2), (.int x3), (.int x4), (.int x5), (.int x1), (.int x6), (.int x7), (.int x8), (.int x9), (.int x10)] (.int 0) ∧ v = none) := by
  refine CtrN.intro (L0 := #[.val (.ref a1), .val (.ref a2), .val .null, .unset, .unset]) (plainFor_of_name pn4) O0 (own_entry rfl) ?_
  intro p e s m below meth c T0 hy hml hret hlk hnm W0
  refine o_aloadN W0 (pc' := 1) (hb hy d24_0) rfl rfl rfl ?_
  refine o_initO W0 (w11 hw) (w12 hw) (w13 hw) (by rw [hml]; rfl) (pc' := 4) (hb hy d24_1) rfl (by decide) 0 (by exact Nat.le_of_eq rfl) (by decide) ?_
  intro T1 W1
  refine o_aloadN W1 (pc' := 5) (hb hy d24_4) rfl rfl rfl ?_
  refine o_virtual W1 (y := (⟨"java/lang/AbstractStringBuilder", "getValue", "()[B"⟩ : MethodName)) (z := (⟨"java/lang/AbstractStringBuilder", "getValue", "()[B"⟩ : MethodName)) (w139 hw) (w140 hw) (o_nf W1 rfl (w142 hw)) (w142 hw) (w141 hw) (by decide) E_a2 (argsL := []) (CtrN.back (Wd := 0) W1 (rm21 l Z a0 hw a2 a3 h0 W1.old F_a2_value) (w143 hw) (w71 hw) (by decide) (by decide)) (by rw [hml]; rfl) (lenOf pd13 rfl) (S := []) rfl (by exact Nat.le_of_eq rfl) (pc' := 8) (hb hy d24_5) rfl (cells' := 0) (slots' := 0) rfl rfl (by decide) (by decide) (wy := []) (fun _ _ _ q => ⟨q.1, q.2.1⟩) all0 (fun _ _ => trivial) ?_
  intro v2 T2 h2 lo2 W2 K2 q2
  obtain rfl := q2.2.2
  show Gl _ _ _ _ _ _ _ _ [(.ref a3)]
  refine o_astoreN W2 (L' := #[.val (.ref a1), .val (.ref a2), .val .null, .val (.ref a3), .unset]) (pc' := 9) (hb hy d24_8) rfl rfl rfl ?_
  refine o_aloadN W2 (pc' := 10) (hb hy d24_9) rfl rfl rfl ?_
  have c3 := (F_a2_count.keep K2 nin0)
  have c4 := (E_a2.keep K2)
  refine o_virtual W2 (y := (⟨"java/lang/AbstractStringBuilder", "length", "()I"⟩ : MethodName)) (z := (⟨"java/lang/StringBuilder", "length", "()I"⟩ : MethodName)) (w144 hw) (w145 hw) (o_nf2 W2 (y2 := (⟨"java/lang/AbstractStringBuilder", "ensureCapacityInternal", "(I)V"⟩ : MethodName)) rfl (w103 hw) (w105 hw)) (w147 hw) (w148 hw) (by decide) c4 (argsL := []) (CtrN.back (Wd := 0) W2 (rm42 l Z a0 hw a2 h2 W2.old c3 c4) (w149 hw) (w63 hw) (by decide) (by decide)) (by rw [hml]; rfl) (lenOf pd8 rfl) (S := []) rfl (by exact Nat.le_of_eq rfl) (pc' := 13) (hb hy d24_10) rfl (cells' := 0) (slots' := 0) rfl rfl (by decide) (by decide) (wy := []) (fun _ _ _ q => ⟨q.1, q.2.1⟩) all0 (fun _ _ => trivial) ?_
  intro v5 T5 h5 lo5 W5 K5 q5
  obtain rfl := q5.2.2
  show Gl _ _ _ _ _ _ _ _ [(.int 11)]
  refine o_istore W5 (L' := #[.val (.ref a1), .val (.ref a2), .val .null, .val (.ref a3), .val (.int 11)]) (pc' := 15) (hb hy d24_13) rfl rfl ?_
  refine o_aloadN W5 (pc' := 16) (hb hy d24_15) rfl rfl rfl ?_
  have c6 := ((F_a2_coder.keep K2 nin0).keep K5 nin0)
  have c7 := (c4.keep K5)
  refine o_virtual W5 (y := (⟨"java/lang/AbstractStringBuilder", "isLatin1", "()Z"⟩ : MethodName)) (z := (⟨"java/lang/AbstractStringBuilder", "isLatin1", "()Z"⟩ : MethodName)) (w152 hw) (w153 hw) (o_nf W5 rfl (w155 hw)) (w155 hw) (w154 hw) (by decide) c7 (argsL := []) (CtrN.back (Wd := 0) W5 (rm24 l Z a0 hw gCS a2 h5 W5.old SgCS NgCS c6) (w156 hw) (w71 hw) (by decide) (by decide)) (by rw [hml]; rfl) (lenOf pd4 rfl) (S := []) rfl (by exact Nat.le_of_eq rfl) (pc' := 19) (hb hy d24_16) rfl (cells' := 0) (slots' := 0) rfl rfl (by decide) (by decide) (wy := []) (fun _ _ _ q => ⟨q.1, q.2.1⟩) all0 (fun _ _ => trivial) ?_
  intro v8 T8 h8 lo8 W8 K8 q8
  obtain rfl := q8.2.2
  show Gl _ _ _ _ _ _ _ _ [(.int 1)]
  refine o_ifN W8 (pc' := 22) (hb hy d24_19) (XT.i0_eq_f (by decide)) rfl ?_
  refine o_aloadN W8 (pc' := 23) (hb hy d24_22) rfl rfl rfl ?_
  refine o_iconst W8 (v := 0) (pc' := 24) (hb hy d24_23) rfl rfl ?_
  have c9 := (((E_a1.keep K2).keep K5).keep K8)
  have c10 := (((F_a1_coder.keep K2 nin0).keep K5 nin0).keep K8 nin0)
  refine o_putF W8 (w21 hw) Via.refl c10 c9 (Or.inr ⟨(w17 hw), rfl, hnm⟩) (w2 hw) (ty := .byte) (v' := (.int 0)) (by decide) rfl (by decide) g_a1 (Or.inl (List.mem_of_getElem? (i := 0) rfl)) (fun _ _ => trivial) (pc' := 27) (hb hy d24_24) rfl ?_
  intro T11 h11 lo11 W11 R11
  have F11 := c10.same R11
  refine o_aloadN W11 (pc' := 28) (hb hy d24_27) rfl rfl rfl ?_
  refine o_aloadN W11 (pc' := 29) (hb hy d24_28) rfl rfl rfl ?_
  refine o_iconst W11 (v := 0) (pc' := 30) (hb hy d24_29) rfl rfl ?_
  refine o_iload W11 (pc' := 32) (hb hy d24_30) rfl rfl ?_
  have c12 := (c9.wr R11)
  have c13 := (((V_a3.keep K2 nin0).keep K5 nin0).keep K8 nin0)
  have c14 := ((((V_a3.keep K2 nin0).keep K5 nin0).keep K8 nin0).other R11 (Ne.symm (Exa.neArv c9 c13 (w2 hw))))
  refine o_static W11 (y := (⟨"java/util/Arrays", "copyOfRange", "([BII)[B"⟩ : MethodName)) (w157 hw) (w158 hw) (w159 hw) (w160 hw) (by decide) (argsL := [(.ref a3), (.int 0), (.int 11)]) (CtrN.back (Wd := 1) W11 (rm46 l Z a0 hw a3 k_a3 x1 x2 x3 x4 x5 x6 x7 x8 x9 x10 h11 W11.old c14) (w160 hw) (w159 hw) (by decide) (by decide)) (by rw [hml]; rfl) (lenOf pd16 rfl) (S := [(.ref a1)]) rfl (by exact Nat.le_of_eq rfl) (pc' := 35) (hb hy d24_32) rfl (cells' := 1) (slots' := 11) rfl rfl (by decide) (by decide) (wy := []) (fun _ _ _ q => ⟨q.1, q.2.1⟩) all0 (fun _ _ => trivial) ?_
  intro v15 T15 h15 lo15 W15 K15 q15
  obtain ⟨r1_15, r2_15, P15_0, P15_1, rfl⟩ := q15.2.2
  show Gl _ _ _ _ _ _ _ _ [(.ref r1_15), (.ref a1)]
  have c16 := (c12.keep K15)
  have c17 := (((((F_a1_value.keep K2 nin0).keep K5 nin0).keep K8 nin0).other R11 (Or.inr (slot_ne (Or.inr (w16 hw)) (Or.inr (w17 hw)) (by decide) (t := (.array .byte)) (t' := .byte) (by decide) (by decide)))).keep K15 nin0)
  refine o_putF W15 (w20 hw) Via.refl c17 c16 (Or.inr ⟨(w16 hw), rfl, hnm⟩) (w2 hw) (ty := (.array .byte)) (v' := (.ref r1_15)) (by decide) rfl rfl g_a1 (Or.inl (List.mem_of_getElem? (i := 0) rfl)) (fun _ _ => trivial) (pc' := 38) (hb hy d24_35) rfl ?_
  intro T18 h18 lo18 W18 R18
  have F18 := c17.same R18
  refine o_goto W18 (pc' := 97) (hb hy d24_38) (by decide) rfl ?_
  have c19 := ((F11.keep K15 nin0).other R18 (Or.inr (slot_ne (Or.inr (w17 hw)) (Or.inr (w16 hw)) (by decide) (t := .byte) (t' := (.array .byte)) (by decide) (by decide))))
  have c20 := (c16.wr R18)
  have c21 := (P15_1.other R18 (own_ne' c12.lt P15_0))
  exact o_ret0 W18 hlk hret (hb hy d24_97) (by decide) (by decide) ⟨r1_15, r2_15, (Nat.le_trans W11.keep.1 P15_0), c19, F18, c21, rfl⟩
theorem rm48 (l : Launch) (Z : State) (a0 : Array Value) (hw : ∀ d ∈ tables_1, d.before a0 Z = true) (gCS : Int32) (a1 a2 a3 : Addr) (k_a3 : ClassId) (x1 x2 x3 x4 x5 x6 x7 x8 x9 x10 : Int32) (h0 : Heap) (O0 : Old Z Z.heap.size h0) (E_a2 : Exa Z h0 a2 "java/lang/StringBuilder") (F_a2_value : Fld Z h0 a2 "java/lang/AbstractStringBuilder" "value" "[B" (.ref a3)) (F_a2_count : Fld Z h0 a2 "java/lang/AbstractStringBuilder" "count" "I" (.int 11)) (SgCS : Sta Z Z.heap "java/lang/String" "COMPACT_STRINGS" "Z" (.int gCS)) (NgCS : ¬ (gCS = (0 : Int32))) (F_a2_coder : Fld Z h0 a2 "java/lang/AbstractStringBuilder" "coder" "B" (.int 0)) (E_a1 : Exa Z h0 a1 "java/lang/String") (F_a1_coder : Fld Z h0 a1 "java/lang/String" "coder" "B" (.int 0)) (V_a3 : Arv Z h0 a3 k_a3 .byte (16 : Int32) [(.int x1), (.int x2), (.int x3), (.int x4), (.int x5), (.int x1), (.int x6), (.int x7), (.int x8), (.int x9), (.int x10), (.int 0), (.int 0), (.int 0), (.int 0), (.int 0)] (.int 0)) (F_a1_value : Fld Z h0 a1 "java/lang/String" "value" "[B" .null) (g_a1 : Z.heap.size ≤ a1) :
    CtrN l Z (⟨"java/lang/String", "<init>", "(Ljava/lang/StringBuilder;)V"⟩ : MethodName) jdk_42_method_53_code 2 none [] (⟨4, 1, 11, 74⟩ : Room) #[(.ref a1), (.ref a2)] h0 [a1] (fun v h => ∃ r1 : Addr, ∃ r2 : ClassId, h0.size ≤ r1 ∧ Fld Z h a1 "java/lang/String" "coder" "B" (.int 0) ∧ Fld Z h a1 "java/lang/String" "value" "[B" (.ref r1) ∧ Arv Z h r1 r2 .byte (11 : Int32) [(.int x1), (.int x2), (.int x3), (.int x4), (.int x5), (.int x1), (.int x6), (.int x7), (.int x8), (.int x9), (.int x10)] (.int 0) ∧ v = none) := by
  refine CtrN.intro (L0 := #[.val (.ref a1), .val (.ref a2)]) (plainFor_of_name pn4) O0 (own_entry rfl) ?_
  intro p e s m below meth c T0 hy hml hret hlk hnm W0
  refine o_aloadN W0 (pc' := 1) (hb hy d23_0) rfl rfl rfl ?_
  refine o_aloadN W0 (pc' := 2) (hb hy d23_1) rfl rfl rfl ?_
  refine o_aconstNull W0 (pc' := 3) (hb hy d23_2) rfl ?_
  refine o_special W0 (y := (⟨"java/lang/String", "<init>", "(Ljava/lang/AbstractStringBuilder;Ljava/lang/Void;)V"⟩ : MethodName)) rfl (w136 hw) (w137 hw) (w138 hw) (by decide) (a := a1) (argsL := [(.ref a2), .null]) (CtrN.back (Wd := 0) W0 (rm47 l Z a0 hw gCS a1 a2 a3 k_a3 x1 x2 x3 x4 x5 x6 x7 x8 x9 x10 h0 W0.old E_a2 F_a2_value F_a2_count SgCS NgCS F_a2_coder E_a1 F_a1_coder g_a1 V_a3 F_a1_value) (w138 hw) (w3 hw) (by decide) (by decide)) (by rw [hml]; rfl) (lenOf pd17 rfl) (S := []) rfl (by exact Nat.le_of_eq rfl) (pc' := 6) (hb hy d23_3) rfl (cells' := 1) (slots' := 11) rfl rfl (by decide) (by decide) (wy := [a1]) (fun _ _ _ q => ⟨q.1, q.2.1⟩) (allS ⟨g_a1, (Or.inl (List.mem_of_getElem? (i := 0) rfl))⟩ all0) (fun _ _ => trivial) ?_
  intro v1 T1 h1 lo1 W1 K1 q1
  obtain ⟨r1_1, r2_1, P1_0, P1_1, P1_2, P1_3, rfl⟩ := q1.2.2
  show Gl _ _ _ _ _ _ _ _ []
  have c2 := (E_a1.keep K1)
  exact o_ret0 W1 hlk hret (hb hy d23_6) (by decide) (by decide) ⟨r1_1, r2_1, (Nat.le_trans W0.keep.1 P1_0), P1_1, P1_2, P1_3, rfl⟩
theorem rm49 (l : Launch) (Z : State) (a0 : Array Value) (hw : ∀ d ∈ tables_1, d.before a0 Z = true) (gCS : Int32) (a1 a2 : Addr) (k_a2 : ClassId) (x1 x2 x3 x4 x5 x6 x7 x8 x9 x10 : Int32) (h0 : Heap) (O0 : Old Z Z.heap.size h0) (E_a1 : Exa Z h0 a1 "java/lang/StringBuilder") (F_a1_value : Fld Z h0 a1 "java/lang/AbstractStringBuilder" "value" "[B" (.ref a2)) (F_a1_count : Fld Z h0 a1 "java/lang/AbstractStringBuilder" "count" "I" (.int 11)) (SgCS : Sta Z Z.heap "java/lang/String" "COMPACT_STRINGS" "Z" (.int gCS)) (NgCS : ¬ (gCS = (0 : Int32))) (F_a1_coder : Fld Z h0 a1 "java/lang/AbstractStringBuilder" "coder" "B" (.int 0)) (V_a2 : Arv Z h0 a2 k_a2 .byte (16 : Int32) [(.int x1), (.int x2), (.int x3), (.int x4), (.int x5), (.int x1), (.int x6), (.int x7), (.int x8), (.int x9), (.int x10), (.int 0), (.int 0), (.int 0), (.int 0), (.int 0)] (.int 0)) :
    CtrN l Z (⟨"java/lang/StringBuilder", "toString", "()Ljava/lang/String;"⟩ : MethodName) jdk_67_method_42_code 1 (some (.object "java/lang/String")) [] (⟨5, 2, 15, 88⟩ : Room) #[(.ref a1)] h0 [] (fun v h => ∃ r1 : Addr, ∃ r2 : Addr, ∃ r3 : ClassId, h0.size ≤ r1 ∧ h0.size ≤ r2 ∧ Exa Z h r1 "java/lang/String" ∧ Fld Z h r1 "java/lang/String" "value" "[B" (.ref r2) ∧ Fld Z h r1 "java/lang/String" "coder" "B" (.int 0) ∧ Arv Z h r2 r3 .byte (11 : Int32) [(.int x1), (.int x2), (.int x3), (.int x4), (.int x5), (.int x1), (.int x6), (.int x7), (.int x8), (.int x9), (.int x10)] (.int 0) ∧ v = some (.ref r1)) := by
  refine CtrN.intro (L0 := #[.val (.ref a1)]) (plainFor_of_name pn3) O0 (own_entry rfl) ?_
  intro p e s m below meth c T0 hy hml hret hlk hnm W0
  refine o_new W0 (w132 hw) (w2 hw) (w3 hw) (fun _ _ => trivial) (pc' := 3) (hb hy d22_0) rfl (cells' := 1) (slots' := 4) rfl rfl (by decide) (by decide) ?_
  intro b1 T1 h1 W1 E1 ge1 gz1 gb1 A1 D1
  have Fb1_value : Fld Z h1 b1 "java/lang/String" "value" "[B" .null := D1 (Or.inr (w16 hw)) (ty := (.array .byte)) (by decide)
  have Fb1_coder : Fld Z h1 b1 "java/lang/String" "coder" "B" (.int 0) := D1 (Or.inr (w17 hw)) (ty := .byte) (by decide)
  refine o_dup W1 (pc' := 4) (hb hy d22_3) rfl rfl ?_
  refine o_aloadN W1 (pc' := 5) (hb hy d22_4) rfl rfl rfl ?_
  have c2 := (E_a1.ext E1)
  have c3 := (F_a1_value.ext E1)
  have c4 := (F_a1_count.ext E1)
  have c5 := (F_a1_coder.ext E1)
  have c6 := (V_a2.ext E1)
  refine o_special W1 (y := (⟨"java/lang/String", "<init>", "(Ljava/lang/StringBuilder;)V"⟩ : MethodName)) rfl (w133 hw) (w134 hw) (w135 hw) (by decide) (a := b1) (argsL := [(.ref a1)]) (CtrN.back (Wd := 1) W1 (rm48 l Z a0 hw gCS b1 a1 a2 k_a2 x1 x2 x3 x4 x5 x6 x7 x8 x9 x10 h1 W1.old c2 c3 c4 SgCS NgCS c5 A1 Fb1_coder c6 Fb1_value gz1) (w135 hw) (w3 hw) (by decide) (by decide)) (by rw [hml]; rfl) (lenOf pd18 rfl) (S := [(.ref b1)]) rfl (by exact Nat.le_of_eq rfl) (pc' := 8) (hb hy d22_5) rfl (cells' := 2) (slots' := 15) rfl rfl (by decide) (by decide) (wy := [b1]) (fun _ _ _ q => ⟨q.1, q.2.1⟩) (allS ⟨gz1, (Or.inr gb1)⟩ all0) (fun _ _ => trivial) ?_
  intro v7 T7 h7 lo7 W7 K7 q7
  obtain ⟨r1_7, r2_7, P7_0, P7_1, P7_2, P7_3, rfl⟩ := q7.2.2
  show Gl _ _ _ _ _ _ _ _ [(.ref b1)]
  have c8 := (A1.keep K7)
  exact o_retA W7 hlk (v := (.ref b1)) hret rfl rfl (hb hy d22_8) (by decide) (by decide) ⟨b1, r1_7, r2_7, gb1, (Nat.le_trans W1.keep.1 P7_0), c8, P7_2, P7_1, P7_3, rfl⟩
theorem rm50 (l : Launch) (Z : State) (a0 : Array Value) (hw : ∀ d ∈ tables_1, d.before a0 Z = true) (gCS : Int32) (a1 a2 a3 : Addr) (k_a3 : ClassId) (x1 x2 : Int32) (h0 : Heap) (O0 : Old Z Z.heap.size h0) (F_a1_reason : Fld Z h0 a1 "com/example/countersign/countersign/Verdict" "reason" "Ljava/lang/String;" (.ref a2)) (SgCS : Sta Z Z.heap "java/lang/String" "COMPACT_STRINGS" "Z" (.int gCS)) (NgCS : ¬ (gCS = (0 : Int32))) (E_a2 : Exa Z h0 a2 "java/lang/String") (F_a2_value : Fld Z h0 a2 "java/lang/String" "value" "[B" (.ref a3)) (V_a3 : Arv Z h0 a3 k_a3 .byte (2 : Int32) [(.int (StrChars.lo8 x1)), (.int (StrChars.lo8 x2))] (.int 0)) (F_a2_coder : Fld Z h0 a2 "java/lang/String" "coder" "B" (.int 0)) :
    CtrW l Z consts_1 (⟨"com/example/countersign/countersign/Verdict", "toString", "()Ljava/lang/String;"⟩ : MethodName) prog_11_method_6_code 1 (some (.object "java/lang/String")) [] (⟨6, 6, 75, 100⟩ : Room) #[(.ref a1)] h0 [] (fun v h => ∃ r1 : Addr, ∃ r2 : Addr, ∃ r3 : ClassId, h0.size ≤ r1 ∧ h0.size ≤ r2 ∧ Exa Z h r1 "java/lang/String" ∧ Fld Z h r1 "java/lang/String" "value" "[B" (.ref r2) ∧ Fld Z h r1 "java/lang/String" "coder" "B" (.int 0) ∧ Arv Z h r2 r3 .byte (11 : Int32) [(.int (StrChars.lo8 (105 : Int32))), (.int (StrChars.lo8 (110 : Int32))), (.int (StrChars.lo8 (118 : Int32))), (.int (StrChars.lo8 (97 : Int32))), (.int (StrChars.lo8 (108 : Int32))), (.int (StrChars.lo8 (105 : Int32))), (.int (StrChars.lo8 (100 : Int32))), (.int (StrChars.lo8 (58 : Int32))), (.int (StrChars.lo8 (32 : Int32))), (.int (StrChars.lo8 x1)), (.int (StrChars.lo8 x2))] (.int 0) ∧ v = some (.ref r1)) := by
  refine CtrW.intro (L0 := #[.val (.ref a1)]) (plainFor_of_name pn1) O0 (own_entry rfl) ?_
  intro p e s m below meth c T0 V0 hy hml hret hlk hnm W0
  refine o_aloadN W0 (pc' := 1) (hb hy d11_0) rfl rfl rfl ?_
  refine o_getF W0 (w49 hw) Via.refl F_a1_reason (pc' := 4) (hb hy d11_1) rfl ?_
  intro T1 W1
  refine o_ifnonnullY W1 (pc' := 12) (hb hy d11_4) (by decide) rfl ?_
  refine o_new W1 (w61 hw) (w62 hw) (w63 hw) (fun _ E => IW.ext E W1.inv) (pc' := 15) (hb hy d11_12) rfl (cells' := 1) (slots' := 4) rfl rfl (by decide) (by decide) ?_
  intro b2 T2 h2 W2 E2 ge2 gz2 gb2 A2 D2
  have Fb2_value : Fld Z h2 b2 "java/lang/AbstractStringBuilder" "value" "[B" .null := D2 (Or.inl (w76 hw)) (ty := (.array .byte)) (by decide)
  have Fb2_coder : Fld Z h2 b2 "java/lang/AbstractStringBuilder" "coder" "B" (.int 0) := D2 (Or.inl (w78 hw)) (ty := .byte) (by decide)
  have Fb2_count : Fld Z h2 b2 "java/lang/AbstractStringBuilder" "count" "I" (.int 0) := D2 (Or.inl (w101 hw)) (ty := .int) (by decide)
  refine o_dup W2 (pc' := 16) (hb hy d11_15) rfl rfl ?_
  refine o_special W2 (y := (⟨"java/lang/StringBuilder", "<init>", "()V"⟩ : MethodName)) rfl (w64 hw) (w65 hw) (w66 hw) (by decide) (a := b2) (argsL := []) (CtrN.back (Wd := 1) W2 (rm6 l Z a0 hw gCS b2 h2 W2.old SgCS NgCS A2 Fb2_value Fb2_coder Fb2_count gz2) (w66 hw) (w63 hw) (by decide) (by decide)) (by rw [hml]; rfl) (lenOf pd6 rfl) (S := [(.ref b2)]) rfl (by exact Nat.le_of_eq rfl) (pc' := 19) (hb hy d11_16) rfl (cells' := 2) (slots' := 20) rfl rfl (by decide) (by decide) (wy := [b2]) (fun _ _ _ q => ⟨q.1, q.2.1⟩) (allS ⟨gz2, (Or.inr gb2)⟩ all0) (fun _ K => IW.keep K (sfS (Safe.exa W2.al A2 (by decide) (by decide)) sf0) W2.inv) ?_
  intro v3 T3 h3 lo3 W3 K3 q3
  obtain ⟨r1_3, r2_3, P3_0, P3_1, P3_2, P3_3, P3_4, rfl⟩ := q3.2.2
  show Gl _ _ _ _ _ _ _ _ [(.ref b2)]
  refine o_ldcR W3 (w79 hw) (own_wS hw) (own_EL hw) (by simp [consts_1]) (pc' := 21) (hb hy d11_19) rfl (n := 36) (by decide) (by decide) (cells' := 4) (slots' := 60) rfl rfl (by decide) (by decide) (vs := [(.int (StrChars.lo8 (105 : Int32))), (.int (StrChars.lo8 (110 : Int32))), (.int (StrChars.lo8 (118 : Int32))), (.int (StrChars.lo8 (97 : Int32))), (.int (StrChars.lo8 (108 : Int32))), (.int (StrChars.lo8 (105 : Int32))), (.int (StrChars.lo8 (100 : Int32))), (.int (StrChars.lo8 (58 : Int32))), (.int (StrChars.lo8 (32 : Int32)))]) (z := (9 : Int32)) ⟨by decide, by decide⟩ (by decide) (by decide) ?_
  intro s4 T4 h4 V4 t4 k4 W4 E4 C4 X4 Fc4 Fv4 A4 ns4
  have c5 := (P3_3.ext E4)
  have c6 := (P3_1.ext E4)
  have c7 := (P3_4.ext E4)
  have c8 := (P3_2.ext E4)
  have c9 := ((A2.keep K3).ext E4)
  refine o_virtual W4 (y := (⟨"java/lang/StringBuilder", "append", "(Ljava/lang/String;)Ljava/lang/StringBuilder;"⟩ : MethodName)) (z := (⟨"java/lang/StringBuilder", "append", "(Ljava/lang/String;)Ljava/lang/StringBuilder;"⟩ : MethodName)) (w80 hw) (w81 hw) (o_nf W4 rfl (w83 hw)) (w83 hw) (w82 hw) (by decide) c9 (argsL := [(.ref s4)]) (CtrN.back (Wd := 0) W4 (rm14 l Z a0 hw gCS b2 s4 t4 k4 r1_3 r2_3 h4 W4.old X4 Fv4 A4 SgCS NgCS Fc4 c5 c9 c6 c7 c8 (Nat.le_trans W2.zs P3_0) gz2) (w84 hw) (w63 hw) (by decide) (by decide)) (by rw [hml]; rfl) (lenOf pd12 rfl) (S := []) rfl (by exact Nat.le_of_eq rfl) (pc' := 24) (hb hy d11_21) rfl (cells' := 4) (slots' := 60) rfl rfl (by decide) (by decide) (wy := [b2, r1_3]) (fun _ _ _ q => ⟨q.1, q.2.1⟩) (allS ⟨gz2, (Or.inr gb2)⟩ (allS ⟨(Nat.le_trans W2.zs P3_0), (Or.inr (Nat.le_trans W2.keep.1 P3_0))⟩ all0)) (fun _ K => IW.keep K (sfS (Safe.exa W4.al c9 (by decide) (by decide)) (sfS (own_safeB W4.2.2.2.1 (n := 16) (by decide) (own_EL16 hw) c7) sf0)) W4.inv) ?_
  intro v10 T10 h10 lo10 W10 K10 q10
  obtain ⟨P10_0, P10_1, P10_2, P10_3, rfl⟩ := q10.2.2
  show Gl _ _ _ _ _ _ _ _ [(.ref b2)]
  refine o_aloadN W10 (pc' := 25) (hb hy d11_24) rfl rfl rfl ?_
  have c11 := (F_a1_reason.ext E2)
  have c12 := ((((F_a1_reason.ext E2).keep K3 (ninS (own_ne F_a1_reason.lt ge2) nin0)).ext E4).keep K10 (ninS (own_ne F_a1_reason.lt ge2) (ninS (own_ne c11.lt P3_0) nin0)))
  refine o_getF W10 (w49 hw) Via.refl c12 (pc' := 28) (hb hy d11_25) rfl ?_
  intro T13 W13
  have c14 := ((((E_a2.ext E2).keep K3).ext E4).keep K10)
  have c15 := (E_a2.ext E2)
  have c16 := ((((F_a2_value.ext E2).keep K3 (ninS (own_ne E_a2.lt ge2) nin0)).ext E4).keep K10 (ninS (own_ne E_a2.lt ge2) (ninS (own_ne c15.lt P3_0) nin0)))
  have c17 := (V_a3.ext E2)
  have c18 := ((((V_a3.ext E2).keep K3 (ninS (own_ne V_a3.lt ge2) nin0)).ext E4).keep K10 (ninS (own_ne V_a3.lt ge2) (ninS (own_ne c17.lt P3_0) nin0)))
  have c19 := ((((F_a2_coder.ext E2).keep K3 (ninS (own_ne E_a2.lt ge2) nin0)).ext E4).keep K10 (ninS (own_ne E_a2.lt ge2) (ninS (own_ne c15.lt P3_0) nin0)))
  have c20 := (c9.keep K10)
  refine o_virtual W13 (y := (⟨"java/lang/StringBuilder", "append", "(Ljava/lang/String;)Ljava/lang/StringBuilder;"⟩ : MethodName)) (z := (⟨"java/lang/StringBuilder", "append", "(Ljava/lang/String;)Ljava/lang/StringBuilder;"⟩ : MethodName)) (w80 hw) (w81 hw) (o_nf W13 rfl (w83 hw)) (w83 hw) (w82 hw) (by decide) c20 (argsL := [(.ref a2)]) (CtrN.back (Wd := 0) W13 (rm40 l Z a0 hw gCS b2 a2 a3 k_a3 x1 x2 r1_3 r2_3 (StrChars.lo8 (105 : Int32)) (StrChars.lo8 (110 : Int32)) (StrChars.lo8 (118 : Int32)) (StrChars.lo8 (97 : Int32)) (StrChars.lo8 (108 : Int32)) (StrChars.lo8 (100 : Int32)) (StrChars.lo8 (58 : Int32)) (StrChars.lo8 (32 : Int32)) h10 W13.old c14 c16 c18 SgCS NgCS c19 P10_0 c20 P10_1 P10_2 P10_3 (Nat.le_trans W2.zs P3_0) gz2) (w84 hw) (w63 hw) (by decide) (by decide)) (by rw [hml]; rfl) (lenOf pd12 rfl) (S := []) rfl (by exact Nat.le_of_eq rfl) (pc' := 31) (hb hy d11_28) rfl (cells' := 4) (slots' := 60) rfl rfl (by decide) (by decide) (wy := [b2, r1_3]) (fun _ _ _ q => ⟨q.1, q.2.1⟩) (allS ⟨gz2, (Or.inr gb2)⟩ (allS ⟨(Nat.le_trans W2.zs P3_0), (Or.inr (Nat.le_trans W2.keep.1 P3_0))⟩ all0)) (fun _ K => IW.keep K (sfS (Safe.exa W13.al c20 (by decide) (by decide)) (sfS (own_safeB W13.2.2.2.1 (n := 16) (by decide) (own_EL16 hw) P10_2) sf0)) W13.inv) ?_
  intro v21 T21 h21 lo21 W21 K21 q21
  obtain ⟨P21_0, P21_1, P21_2, P21_3, rfl⟩ := q21.2.2
  show Gl _ _ _ _ _ _ _ _ [(.ref b2)]
  have c22 := (c20.keep K21)
  refine o_virtual W21 (y := (⟨"java/lang/StringBuilder", "toString", "()Ljava/lang/String;"⟩ : MethodName)) (z := (⟨"java/lang/StringBuilder", "toString", "()Ljava/lang/String;"⟩ : MethodName)) (w127 hw) (w128 hw) (o_nf W21 rfl (w130 hw)) (w130 hw) (w129 hw) (by decide) c22 (argsL := []) (CtrN.back (Wd := 0) W21 (rm49 l Z a0 hw gCS b2 r1_3 r2_3 (StrChars.lo8 (105 : Int32)) (StrChars.lo8 (110 : Int32)) (StrChars.lo8 (118 : Int32)) (StrChars.lo8 (97 : Int32)) (StrChars.lo8 (108 : Int32)) (StrChars.lo8 (100 : Int32)) (StrChars.lo8 (58 : Int32)) (StrChars.lo8 (32 : Int32)) (StrChars.lo8 x1) (StrChars.lo8 x2) h21 W21.old c22 P21_1 P21_0 SgCS NgCS P21_3 P21_2) (w131 hw) (w63 hw) (by decide) (by decide)) (by rw [hml]; rfl) (lenOf pd19 rfl) (S := []) rfl (by exact Nat.le_of_eq rfl) (pc' := 34) (hb hy d11_31) rfl (cells' := 6) (slots' := 75) rfl rfl (by decide) (by decide) (wy := []) (fun _ _ _ q => ⟨q.1, q.2.1⟩) all0 (fun _ K => IW.keep K sf0 W21.inv) ?_
  intro v23 T23 h23 lo23 W23 K23 q23
  obtain ⟨r1_23, r2_23, r3_23, P23_0, P23_1, P23_2, P23_3, P23_4, P23_5, rfl⟩ := q23.2.2
  show Gl _ _ _ _ _ _ _ _ [(.ref r1_23)]
  exact o_retAW W23 (own_EL hw) hlk (v := (.ref r1_23)) hret rfl rfl (hb hy d11_34) (by decide) (by decide) ⟨r1_23, r2_23, r3_23, (Nat.le_trans W21.keep.1 P23_0), (Nat.le_trans W21.keep.1 P23_1), P23_2, P23_3, P23_4, P23_5, rfl⟩
theorem rm51 (l : Launch) (Z : State) (a0 : Array Value) (hw : ∀ d ∈ tables_1, d.before a0 Z = true) (a1 a2 : Addr) (k_a1 : ClassId) (x1 x2 x3 x4 x5 x6 x7 x8 x9 x10 : Int32) (k_a2 : ClassId) (x11 x12 : Int32) (h0 : Heap) (O0 : Old Z Z.heap.size h0) (V_a1 : Arv Z h0 a1 k_a1 .byte (11 : Int32) [(.int x1), (.int x2), (.int x3), (.int x4), (.int x5), (.int x1), (.int x6), (.int x7), (.int x8), (.int x9), (.int x10)] (.int 0)) (V_a2 : Arv Z h0 a2 k_a2 .byte (11 : Int32) [(.int (StrChars.lo8 (105 : Int32))), (.int (StrChars.lo8 (110 : Int32))), (.int (StrChars.lo8 (118 : Int32))), (.int (StrChars.lo8 (97 : Int32))), (.int (StrChars.lo8 (108 : Int32))), (.int (StrChars.lo8 (105 : Int32))), (.int (StrChars.lo8 (100 : Int32))), (.int (StrChars.lo8 (58 : Int32))), (.int (StrChars.lo8 (32 : Int32))), (.int (StrChars.lo8 x11)), (.int (StrChars.lo8 x12))] (.int 0)) (hc1 : x1 = (StrChars.lo8 (105 : Int32))) (hc2 : x2 = (StrChars.lo8 (110 : Int32))) (hc3 : x3 = (StrChars.lo8 (118 : Int32))) (hc4 : x4 = (StrChars.lo8 (97 : Int32))) (hc5 : x5 = (StrChars.lo8 (108 : Int32))) (hc6 : x6 = (StrChars.lo8 (100 : Int32))) (hc7 : x7 = (StrChars.lo8 (58 : Int32))) (hc8 : x8 = (StrChars.lo8 (32 : Int32))) (hc9 : x9 = (StrChars.lo8 x11)) (hc10 : x10 = (StrChars.lo8 x12)) :
    CtrN l Z (⟨"java/lang/StringLatin1", "equals", "([B[B)Z"⟩ : MethodName) jdk_43_method_13_code 3 (some .boolean) [] (⟨0, 0, 0, 0⟩ : Room) #[(.ref a1), (.ref a2)] h0 [] (fun v h => v = some (.int 1)) := by
  refine CtrN.intro (L0 := #[.val (.ref a1), .val (.ref a2), .unset]) (plainFor_of_name pn6) O0 (own_entry rfl) ?_
  intro p e s m below meth c T0 hy hml hret hlk hnm W0
  refine o_aloadN W0 (pc' := 1) (hb hy d34_0) rfl rfl rfl ?_
  refine o_len W0 V_a1 (pc' := 2) (hb hy d34_1) rfl ?_
  refine o_aloadN W0 (pc' := 3) (hb hy d34_2) rfl rfl rfl ?_
  refine o_len W0 V_a2 (pc' := 4) (hb hy d34_3) rfl ?_
  refine o_icmpN W0 (pc' := 7) (hb hy d34_4) (XT.ii_ne_f (by decide)) rfl ?_
  refine o_iconst W0 (v := 0) (pc' := 8) (hb hy d34_7) rfl rfl ?_
  refine o_istoreN W0 (L' := #[.val (.ref a1), .val (.ref a2), .val (.int 0)]) (pc' := 9) (hb hy d34_8) rfl rfl ?_
  refine o_iloadN W0 (pc' := 10) (hb hy d34_9) rfl rfl ?_
  refine o_aloadN W0 (pc' := 11) (hb hy d34_10) rfl rfl rfl ?_
  refine o_len W0 V_a1 (pc' := 12) (hb hy d34_11) rfl ?_
  refine o_icmpN W0 (pc' := 15) (hb hy d34_12) (XT.ii_ge_f (by decide)) rfl ?_
  refine o_aloadN W0 (pc' := 16) (hb hy d34_15) rfl rfl rfl ?_
  refine o_iloadN W0 (pc' := 17) (hb hy d34_16) rfl rfl ?_
  refine o_baload W0 V_a1 (x := x1) (i := 0) (by decide) (by decide) (by decide) rfl (pc' := 18) (hb hy d34_17) rfl ?_
  refine o_aloadN W0 (pc' := 19) (hb hy d34_18) rfl rfl rfl ?_
  refine o_iloadN W0 (pc' := 20) (hb hy d34_19) rfl rfl ?_
  refine o_baload W0 V_a2 (x := (StrChars.lo8 (105 : Int32))) (i := 0) (by decide) (by decide) (by decide) rfl (pc' := 21) (hb hy d34_20) rfl ?_
  refine o_icmpY W0 (pc' := 26) (hb hy d34_21) (XT.ii_eq_t hc1) (by decide) rfl ?_
  refine o_iinc W0 (v := 1) (L' := #[.val (.ref a1), .val (.ref a2), .val (.int 1)]) (pc' := 29) (hb hy d34_26) rfl (by decide) rfl rfl ?_
  refine o_goto W0 (pc' := 9) (hb hy d34_29) (by decide) rfl ?_
  refine o_iloadN W0 (pc' := 10) (hb hy d34_9) rfl rfl ?_
  refine o_aloadN W0 (pc' := 11) (hb hy d34_10) rfl rfl rfl ?_
  refine o_len W0 V_a1 (pc' := 12) (hb hy d34_11) rfl ?_
  refine o_icmpN W0 (pc' := 15) (hb hy d34_12) (XT.ii_ge_f (by decide)) rfl ?_
  refine o_aloadN W0 (pc' := 16) (hb hy d34_15) rfl rfl rfl ?_
  refine o_iloadN W0 (pc' := 17) (hb hy d34_16) rfl rfl ?_
  refine o_baload W0 V_a1 (x := x2) (i := 1) (by decide) (by decide) (by decide) rfl (pc' := 18) (hb hy d34_17) rfl ?_
  refine o_aloadN W0 (pc' := 19) (hb hy d34_18) rfl rfl rfl ?_
  refine o_iloadN W0 (pc' := 20) (hb hy d34_19) rfl rfl ?_
  refine o_baload W0 V_a2 (x := (StrChars.lo8 (110 : Int32))) (i := 1) (by decide) (by decide) (by decide) rfl (pc' := 21) (hb hy d34_20) rfl ?_
  refine o_icmpY W0 (pc' := 26) (hb hy d34_21) (XT.ii_eq_t hc2) (by decide) rfl ?_
  refine o_iinc W0 (v := 2) (L' := #[.val (.ref a1), .val (.ref a2), .val (.int 2)]) (pc' := 29) (hb hy d34_26) rfl (by decide) rfl rfl ?_
  refine o_goto W0 (pc' := 9) (hb hy d34_29) (by decide) rfl ?_
  refine o_iloadN W0 (pc' := 10) (hb hy d34_9) rfl rfl ?_
  refine o_aloadN W0 (pc' := 11) (hb hy d34_10) rfl rfl rfl ?_
  refine o_len W0 V_a1 (pc' := 12) (hb hy d34_11) rfl ?_
  refine o_icmpN W0 (pc' := 15) (hb hy d34_12) (XT.ii_ge_f (by decide)) rfl ?_
  refine o_aloadN W0 (pc' := 16) (hb hy d34_15) rfl rfl rfl ?_
  refine o_iloadN W0 (pc' := 17) (hb hy d34_16) rfl rfl ?_
  refine o_baload W0 V_a1 (x := x3) (i := 2) (by decide) (by decide) (by decide) rfl (pc' := 18) (hb hy d34_17) rfl ?_
  refine o_aloadN W0 (pc' := 19) (hb hy d34_18) rfl rfl rfl ?_
  refine o_iloadN W0 (pc' := 20) (hb hy d34_19) rfl rfl ?_
  refine o_baload W0 V_a2 (x := (StrChars.lo8 (118 : Int32))) (i := 2) (by decide) (by decide) (by decide) rfl (pc' := 21) (hb hy d34_20) rfl ?_
  refine o_icmpY W0 (pc' := 26) (hb hy d34_21) (XT.ii_eq_t hc3) (by decide) rfl ?_
  refine o_iinc W0 (v := 3) (L' := #[.val (.ref a1), .val (.ref a2), .val (.int 3)]) (pc' := 29) (hb hy d34_26) rfl (by decide) rfl rfl ?_
  refine o_goto W0 (pc' := 9) (hb hy d34_29) (by decide) rfl ?_
  refine o_iloadN W0 (pc' := 10) (hb hy d34_9) rfl rfl ?_
  refine o_aloadN W0 (pc' := 11) (hb hy d34_10) rfl rfl rfl ?_
  refine o_len W0 V_a1 (pc' := 12) (hb hy d34_11) rfl ?_
  refine o_icmpN W0 (pc' := 15) (hb hy d34_12) (XT.ii_ge_f (by decide)) rfl ?_
  refine o_aloadN W0 (pc' := 16) (hb hy d34_15) rfl rfl rfl ?_
  refine o_iloadN W0 (pc' := 17) (hb hy d34_16) rfl rfl ?_
  refine o_baload W0 V_a1 (x := x4) (i := 3) (by decide) (by decide) (by decide) rfl (pc' := 18) (hb hy d34_17) rfl ?_
  refine o_aloadN W0 (pc' := 19) (hb hy d34_18) rfl rfl rfl ?_
  refine o_iloadN W0 (pc' := 20) (hb hy d34_19) rfl rfl ?_
  refine o_baload W0 V_a2 (x := (StrChars.lo8 (97 : Int32))) (i := 3) (by decide) (by decide) (by decide) rfl (pc' := 21) (hb hy d34_20) rfl ?_
  refine o_icmpY W0 (pc' := 26) (hb hy d34_21) (XT.ii_eq_t hc4) (by decide) rfl ?_
  refine o_iinc W0 (v := 4) (L' := #[.val (.ref a1), .val (.ref a2), .val (.int 4)]) (pc' := 29) (hb hy d34_26) rfl (by decide) rfl rfl ?_
  refine o_goto W0 (pc' := 9) (hb hy d34_29) (by decide) rfl ?_
  refine o_iloadN W0 (pc' := 10) (hb hy d34_9) rfl rfl ?_
  refine o_aloadN W0 (pc' := 11) (hb hy d34_10) rfl rfl rfl ?_
  refine o_len W0 V_a1 (pc' := 12) (hb hy d34_11) rfl ?_
  refine o_icmpN W0 (pc' := 15) (hb hy d34_12) (XT.ii_ge_f (by decide)) rfl ?_
  refine o_aloadN W0 (pc' := 16) (hb hy d34_15) rfl rfl rfl ?_
  refine o_iloadN W0 (pc' := 17) (hb hy d34_16) rfl rfl ?_
  refine o_baload W0 V_a1 (x := x5) (i := 4) (by decide) (by decide) (by decide) rfl (pc' := 18) (hb hy d34_17) rfl ?_
  refine o_aloadN W0 (pc' := 19) (hb hy d34_18) rfl rfl rfl ?_
  refine o_iloadN W0 (pc' := 20) (hb hy d34_19) rfl rfl ?_
  refine o_baload W0 V_a2 (x := (StrChars.lo8 (108 : Int32))) (i := 4) (by decide) (by decide) (by decide) rfl (pc' := 21) (hb hy d34_20) rfl ?_
  refine o_icmpY W0 (pc' := 26) (hb hy d34_21) (XT.ii_eq_t hc5) (by decide) rfl ?_
  refine o_iinc W0 (v := 5) (L' := #[.val (.ref a1), .val (.ref a2), .val (.int 5)]) (pc' := 29) (hb hy d34_26) rfl (by decide) rfl rfl ?_
  refine o_goto W0 (pc' := 9) (hb hy d34_29) (by decide) rfl ?_
  refine o_iloadN W0 (pc' := 10) (hb hy d34_9) rfl rfl ?_
  refine o_aloadN W0 (pc' := 11) (hb hy d34_10) rfl rfl rfl ?_
  refine o_len W0 V_a1 (pc' := 12) (hb hy d34_11) rfl ?_
  refine o_icmpN W0 (pc' := 15) (hb hy d34_12) (XT.ii_ge_f (by decide)) rfl ?_
  refine o_aloadN W0 (pc' := 16) (hb hy d34_15) rfl rfl rfl ?_
  refine o_iloadN W0 (pc' := 17) (hb hy d34_16) rfl rfl ?_
  refine o_baload W0 V_a1 (x := x1) (i := 5) (by decide) (by decide) (by decide) rfl (pc' := 18) (hb hy d34_17) rfl ?_
  refine o_aloadN W0 (pc' := 19) (hb hy d34_18) rfl rfl rfl ?_
  refine o_iloadN W0 (pc' := 20) (hb hy d34_19) rfl rfl ?_
  refine o_baload W0 V_a2 (x := (StrChars.lo8 (105 : Int32))) (i := 5) (by decide) (by decide) (by decide) rfl (pc' := 21) (hb hy d34_20) rfl ?_
  refine o_icmpY W0 (pc' := 26) (hb hy d34_21) (XT.ii_eq_t hc1) (by decide) rfl ?_
  refine o_iinc W0 (v := 6) (L' := #[.val (.ref a1), .val (.ref a2), .val (.int 6)]) (pc' := 29) (hb hy d34_26) rfl (by decide) rfl rfl ?_
  refine o_goto W0 (pc' := 9) (hb hy d34_29) (by decide) rfl ?_
  refine o_iloadN W0 (pc' := 10) (hb hy d34_9) rfl rfl ?_
  refine o_aloadN W0 (pc' := 11) (hb hy d34_10) rfl rfl rfl ?_
  refine o_len W0 V_a1 (pc' := 12) (hb hy d34_11) rfl ?_
  refine o_icmpN W0 (pc' := 15) (hb hy d34_12) (XT.ii_ge_f (by decide)) rfl ?_
  refine o_aloadN W0 (pc' := 16) (hb hy d34_15) rfl rfl rfl ?_
  refine o_iloadN W0 (pc' := 17) (hb hy d34_16) rfl rfl ?_
  refine o_baload W0 V_a1 (x := x6) (i := 6) (by decide) (by decide) (by decide) rfl (pc' := 18) (hb hy d34_17) rfl ?_
  refine o_aloadN W0 (pc' := 19) (hb hy d34_18) rfl rfl rfl ?_
  refine o_iloadN W0 (pc' := 20) (hb hy d34_19) rfl rfl ?_
  refine o_baload W0 V_a2 (x := (StrChars.lo8 (100 : Int32))) (i := 6) (by decide) (by decide) (by decide) rfl (pc' := 21) (hb hy d34_20) rfl ?_
  refine o_icmpY W0 (pc' := 26) (hb hy d34_21) (XT.ii_eq_t hc6) (by decide) rfl ?_
  refine o_iinc W0 (v := 7) (L' := #[.val (.ref a1), .val (.ref a2), .val (.int 7)]) (pc' := 29) (hb hy d34_26) rfl (by decide) rfl rfl ?_
  refine o_goto W0 (pc' := 9) (hb hy d34_29) (by decide) rfl ?_
  refine o_iloadN W0 (pc' := 10) (hb hy d34_9) rfl rfl ?_
  refine o_aloadN W0 (pc' := 11) (hb hy d34_10) rfl rfl rfl ?_
  refine o_len W0 V_a1 (pc' := 12) (hb hy d34_11) rfl ?_
  refine o_icmpN W0 (pc' := 15) (hb hy d34_12) (XT.ii_ge_f (by decide)) rfl ?_
  refine o_aloadN W0 (pc' := 16) (hb hy d34_15) rfl rfl rfl ?_
  refine o_iloadN W0 (pc' := 17) (hb hy d34_16) rfl rfl ?_
  refine o_baload W0 V_a1 (x := x7) (i := 7) (by decide) (by decide) (by decide) rfl (pc' := 18) (hb hy d34_17) rfl ?_
  refine o_aloadN W0 (pc' := 19) (hb hy d34_18) rfl rfl rfl ?_
  refine o_iloadN W0 (pc' := 20) (hb hy d34_19) rfl rfl ?_
  refine o_baload W0 V_a2 (x := (StrChars.lo8 (58 : Int32))) (i := 7) (by decide) (by decide) (by decide) rfl (pc' := 21) (hb hy d34_20) rfl ?_
  refine o_icmpY W0 (pc' := 26) (hb hy d34_21) (XT.ii_eq_t hc7) (by decide) rfl ?_
  refine o_iinc W0 (v := 8) (L' := #[.val (.ref a1), .val (.ref a2), .val (.int 8)]) (pc' := 29) (hb hy d34_26) rfl (by decide) rfl rfl ?_
  refine o_goto W0 (pc' := 9) (hb hy d34_29) (by decide) rfl ?_
  refine o_iloadN W0 (pc' := 10) (hb hy d34_9) rfl rfl ?_
  refine o_aloadN W0 (pc' := 11) (hb hy d34_10) rfl rfl rfl ?_
  refine o_len W0 V_a1 (pc' := 12) (hb hy d34_11) rfl ?_
  refine o_icmpN W0 (pc' := 15) (hb hy d34_12) (XT.ii_ge_f (by decide)) rfl ?_
  refine o_aloadN W0 (pc' := 16) (hb hy d34_15) rfl rfl rfl ?_
  refine o_iloadN W0 (pc' := 17) (hb hy d34_16) rfl rfl ?_
  refine o_baload W0 V_a1 (x := x8) (i := 8) (by decide) (by decide) (by decide) rfl (pc' := 18) (hb hy d34_17) rfl ?_
  refine o_aloadN W0 (pc' := 19) (hb hy d34_18) rfl rfl rfl ?_
  refine o_iloadN W0 (pc' := 20) (hb hy d34_19) rfl rfl ?_
  refine o_baload W0 V_a2 (x := (StrChars.lo8 (32 : Int32))) (i := 8) (by decide) (by decide) (by decide) rfl (pc' := 21) (hb hy d34_20) rfl ?_
  refine o_icmpY W0 (pc' := 26) (hb hy d34_21) (XT.ii_eq_t hc8) (by decide) rfl ?_
  refine o_iinc W0 (v := 9) (L' := #[.val (.ref a1), .val (.ref a2), .val (.int 9)]) (pc' := 29) (hb hy d34_26) rfl (by decide) rfl rfl ?_
  refine o_goto W0 (pc' := 9) (hb hy d34_29) (by decide) rfl ?_
  refine o_iloadN W0 (pc' := 10) (hb hy d34_9) rfl rfl ?_
  refine o_aloadN W0 (pc' := 11) (hb hy d34_10) rfl rfl rfl ?_
  refine o_len W0 V_a1 (pc' := 12) (hb hy d34_11) rfl ?_
  refine o_icmpN W0 (pc' := 15) (hb hy d34_12) (XT.ii_ge_f (by decide)) rfl ?_
  refine o_aloadN W0 (pc' := 16) (hb hy d34_15) rfl rfl rfl ?_
  refine o_iloadN W0 (pc' := 17) (hb hy d34_16) rfl rfl ?_
  refine o_baload W0 V_a1 (x := x9) (i := 9) (by decide) (by decide) (by decide) rfl (pc' := 18) (hb hy d34_17) rfl ?_
  refine o_aloadN W0 (pc' := 19) (hb hy d34_18) rfl rfl rfl ?_
  refine o_iloadN W0 (pc' := 20) (hb hy d34_19) rfl rfl ?_
  refine o_baload W0 V_a2 (x := (StrChars.lo8 x11)) (i := 9) (by decide) (by decide) (by decide) rfl (pc' := 21) (hb hy d34_20) rfl ?_
  refine o_icmpY W0 (pc' := 26) (hb hy d34_21) (XT.ii_eq_t hc9) (by decide) rfl ?_
  refine o_iinc W0 (v := 10) (L' := #[.val (.ref a1), .val (.ref a2), .val (.int 10)]) (pc' := 29) (hb hy d34_26) rfl (by decide) rfl rfl ?_
  refine o_goto W0 (pc' := 9) (hb hy d34_29) (by decide) rfl ?_
  refine o_iloadN W0 (pc' := 10) (hb hy d34_9) rfl rfl ?_
  refine o_aloadN W0 (pc' := 11) (hb hy d34_10) rfl rfl rfl ?_
  refine o_len W0 V_a1 (pc' := 12) (hb hy d34_11) rfl ?_
  refine o_icmpN W0 (pc' := 15) (hb hy d34_12) (XT.ii_ge_f (by decide)) rfl ?_
  refine o_aloadN W0 (pc' := 16) (hb hy d34_15) rfl rfl rfl ?_
  refine o_iloadN W0 (pc' := 17) (hb hy d34_16) rfl rfl ?_
  refine o_baload W0 V_a1 (x := x10) (i := 10) (by decide) (by decide) (by decide) rfl (pc' := 18) (hb hy d34_17) rfl ?_
  refine o_aloadN W0 (pc' := 19) (hb hy d34_18) rfl rfl rfl ?_
  refine o_iloadN W0 (pc' := 20) (hb hy d34_19) rfl rfl ?_
  refine o_baload W0 V_a2 (x := (StrChars.lo8 x12)) (i := 10) (by decide) (by decide) (by decide) rfl (pc' := 21) (hb hy d34_20) rfl ?_
  refine o_icmpY W0 (pc' := 26) (hb hy d34_21) (XT.ii_eq_t hc10) (by decide) rfl ?_
  refine o_iinc W0 (v := 11) (L' := #[.val (.ref a1), .val (.ref a2), .val (.int 11)]) (pc' := 29) (hb hy d34_26) rfl (by decide) rfl rfl ?_
  refine o_goto W0 (pc' := 9) (hb hy d34_29) (by decide) rfl ?_
  refine o_iloadN W0 (pc' := 10) (hb hy d34_9) rfl rfl ?_
  refine o_aloadN W0 (pc' := 11) (hb hy d34_10) rfl rfl rfl ?_
  refine o_len W0 V_a1 (pc' := 12) (hb hy d34_11) rfl ?_
  refine o_icmpY W0 (pc' := 32) (hb hy d34_12) (XT.ii_ge_t (by decide)) (by decide) rfl ?_
  refine o_iconst W0 (v := 1) (pc' := 33) (hb hy d34_32) rfl rfl ?_
  exact o_retN W0 hlk (t := .boolean) hret (by simp) (z' := (1 : Int32)) (by decide) (hb hy d34_33) (by decide) (by decide) rfl
theorem rm52 (l : Launch) (Z : State) (a0 : Array Value) (hw : ∀ d ∈ tables_1, d.before a0 Z = true) (gCS : Int32) (a1 a2 a3 a4 : Addr) (k_a3 : ClassId) (x1 x2 x3 x4 x5 x6 x7 x8 x9 x10 : Int32) (k_a4 : ClassId) (x11 x12 : Int32) (h0 : Heap) (O0 : Old Z Z.heap.size h0) (E_a1 : Exa Z h0 a1 "java/lang/String") (E_a2 : Exa Z h0 a2 "java/lang/String") (ne_a1_a2 : a1 ≠ a2) (SgCS : Sta Z Z.heap "java/lang/String" "COMPACT_STRINGS" "Z" (.int gCS)) (NgCS : ¬ (gCS = (0 : Int32))) (F_a1_coder : Fld Z h0 a1 "java/lang/String" "coder" "B" (.int 0)) (F_a2_coder : Fld Z h0 a2 "java/lang/String" "coder" "B" (.int 0)) (F_a1_value : Fld Z h0 a1 "java/lang/String" "value" "[B" (.ref a3)) (F_a2_value : Fld Z h0 a2 "java/lang/String" "value" "[B" (.ref a4)) (V_a3 : Arv Z h0 a3 k_a3 .byte (11 : Int32) [(.int x1), (.int x2), (.int x3), (.int x4), (.int x5), (.int x1), (.int x6), (.int x7), (.int x8), (.int x9), (.int x10)] (.int 0)) (V_a4 : Arv Z h0 a4 k_a4 .byte (11 : Int32) [(.int (StrChars.lo8 (105 : Int32))), (.int (StrChars.lo8 (110 : Int32))), (.int (StrChars.lo8 (118 : Int32))), (.int (StrChars.lo8 (97 : Int32))), (.int (StrChars.lo8 (108 : Int32))), (.int (StrChars.lo8 (105 : Int32))), (.int (StrChars.lo8 (100 : Int32))), (.int (StrChars.lo8 (58 : Int32))), (.int (StrChars.lo8 (32 : Int32))), (.int (StrChars.lo8 x11)), (.int (StrChars.lo8 x12))] (.int 0)) (hc8 : x1 = (StrChars.lo8 (105 : Int32))) (hc9 : x2 = (StrChars.lo8 (110 : Int32))) (hc10 : x3 = (StrChars.lo8 (118 : Int32))) (hc11 : x4 = (StrChars.lo8 (97 : Int32))) (hc12 : x5 = (StrChars.lo8 (108 : Int32))) (hc13 : x6 = (StrChars.lo8 (100 : Int32))) (hc14 : x7 = (StrChars.lo8 (58 : Int32))) (hc15 : x8 = (StrChars.lo8 (32 : Int32))) (hc16 : x9 = (StrChars.lo8 x11)) (hc17 : x10 = (StrChars.lo8 x12)) :
    CtrN l Z (⟨"java/lang/String", "equals", "(Ljava/lang/Object;)Z"⟩ : MethodName) jdk_42_method_66_code 3 (some .boolean) [] (⟨1, 0, 0, 14⟩ : Room) #[(.ref a1), (.ref a2)] h0 [] (fun v h => v = some (.int 1)) := by
  refine CtrN.intro (L0 := #[.val (.ref a1), .val (.ref a2), .unset]) (plainFor_of_name pn4) O0 (own_entry rfl) ?_
  intro p e s m below meth c T0 hy hml hret hlk hnm W0
  refine o_aloadN W0 (pc' := 1) (hb hy d33_0) rfl rfl rfl ?_
  refine o_aloadN W0 (pc' := 2) (hb hy d33_1) rfl rfl rfl ?_
  refine o_acmpY W0 (pc' := 7) (hb hy d33_2) rfl rfl (XT.aa_ne_t (fun q => ne_a1_a2 (Value.ref.inj q))) (by decide) rfl ?_
  refine o_aloadN W0 (pc' := 8) (hb hy d33_7) rfl rfl rfl ?_
  refine o_instY W0 (w177 hw) (Ins.self E_a2) (pc' := 11) (hb hy d33_8) rfl ?_
  intro T1 W1
  refine o_ifN W1 (pc' := 14) (hb hy d33_11) (XT.i0_eq_f (by decide)) rfl ?_
  refine o_aloadN W1 (pc' := 15) (hb hy d33_14) rfl rfl rfl ?_
  refine o_cast W1 (w177 hw) (Ins.self E_a2) (pc' := 18) (hb hy d33_15) rfl ?_
  intro T2 W2
  refine o_astoreN W2 (L' := #[.val (.ref a1), .val (.ref a2), .val (.ref a2)]) (pc' := 19) (hb hy d33_18) rfl rfl rfl ?_
  refine o_getS W2 (w22 hw) Via.refl (SgCS.ext W2.ox) (pc' := 22) (hb hy d33_19) rfl ?_
  intro T3 W3
  refine o_ifN W3 (pc' := 25) (hb hy d33_22) (XT.i0_eq_f NgCS) rfl ?_
  refine o_aloadN W3 (pc' := 26) (hb hy d33_25) rfl rfl rfl ?_
  refine o_getF W3 (w21 hw) Via.refl F_a1_coder (pc' := 29) (hb hy d33_26) rfl ?_
  intro T4 W4
  refine o_aloadN W4 (pc' := 30) (hb hy d33_29) rfl rfl rfl ?_
  refine o_getF W4 (w21 hw) Via.refl F_a2_coder (pc' := 33) (hb hy d33_30) rfl ?_
  intro T5 W5
  refine o_icmpN W5 (pc' := 36) (hb hy d33_33) (XT.ii_ne_f (by decide)) rfl ?_
  refine o_aloadN W5 (pc' := 37) (hb hy d33_36) rfl rfl rfl ?_
  refine o_getF W5 (w20 hw) Via.refl F_a1_value (pc' := 40) (hb hy d33_37) rfl ?_
  intro T6 W6
  refine o_aloadN W6 (pc' := 41) (hb hy d33_40) rfl rfl rfl ?_
  refine o_getF W6 (w20 hw) Via.refl F_a2_value (pc' := 44) (hb hy d33_41) rfl ?_
  intro T7 W7
  refine o_static W7 (y := (⟨"java/lang/StringLatin1", "equals", "([B[B)Z"⟩ : MethodName)) (w178 hw) (w179 hw) (w180 hw) (w181 hw) (by decide) (argsL := [(.ref a3), (.ref a4)]) (CtrN.back (Wd := 0) W7 (rm51 l Z a0 hw a3 a4 k_a3 x1 x2 x3 x4 x5 x6 x7 x8 x9 x10 k_a4 x11 x12 h0 W7.old V_a3 V_a4 hc8 hc9 hc10 hc11 hc12 hc13 hc14 hc15 hc16 hc17) (w181 hw) (w180 hw) (by decide) (by decide)) (by rw [hml]; rfl) (lenOf pd20 rfl) (S := []) rfl (by exact Nat.le_of_eq rfl) (pc' := 47) (hb hy d33_44) rfl (cells' := 0) (slots' := 0) rfl rfl (by decide) (by decide) (wy := []) (fun _ _ _ q => ⟨q.1, q.2.1⟩) all0 (fun _ _ => trivial) ?_
  intro v18 T18 h18 lo18 W18 K18 q18
  obtain rfl := q18.2.2
  show Gl _ _ _ _ _ _ _ _ [(.int 1)]
  refine o_ifN W18 (pc' := 50) (hb hy d33_47) (XT.i0_eq_f (by decide)) rfl ?_
  refine o_iconst W18 (v := 1) (pc' := 51) (hb hy d33_50) rfl rfl ?_
  refine o_goto W18 (pc' := 55) (hb hy d33_51) (by decide) rfl ?_
  exact o_retN W18 hlk (t := .boolean) hret (by simp) (z' := (1 : Int32)) (by decide) (hb hy d33_55) (by decide) (by decide) rfl
theorem rm53 (l : Launch) (Z : State) (a0 : Array Value) (hw : ∀ d ∈ tables_1, d.before a0 Z = true) (gCS : Int32) (a1 a2 : Addr) (k_a2 : ClassId) (x1 : Int32) (h0 : Heap) (O0 : Old Z Z.heap.size h0) (F_a1_value : Fld Z h0 a1 "java/lang/String" "value" "[B" (.ref a2)) (V_a2 : Arv Z h0 a2 k_a2 .byte (1 : Int32) [(.int (StrChars.lo8 x1))] (.int 0)) (E_a1 : Exa Z h0 a1 "java/lang/String") (SgCS : Sta Z Z.heap "java/lang/String" "COMPACT_STRINGS" "Z" (.int gCS)) (NgCS : ¬ (gCS = (0 : Int32))) (F_a1_coder : Fld Z h0 a1 "java/lang/String" "coder" "B" (.int 0)) :
    CtrN l Z (⟨"java/lang/String", "length", "()I"⟩ : MethodName) jdk_42_method_54_code 1 (some .int) [] (⟨1, 0, 0, 13⟩ : Room) #[(.ref a1)] h0 [] (fun v h => v = some (.int 1)) := by
  refine CtrN.intro (L0 := #[.val (.ref a1)]) (plainFor_of_name pn4) O0 (own_entry rfl) ?_
  intro p e s m below meth c T0 hy hml hret hlk hnm W0
  refine o_aloadN W0 (pc' := 1) (hb hy d16_0) rfl rfl rfl ?_
  refine o_getF W0 (w20 hw) Via.refl F_a1_value (pc' := 4) (hb hy d16_1) rfl ?_
  intro T1 W1
  refine o_len W1 V_a2 (pc' := 5) (hb hy d16_4) rfl ?_
  refine o_aloadN W1 (pc' := 6) (hb hy d16_5) rfl rfl rfl ?_
  refine o_virtual W1 (y := (⟨"java/lang/String", "coder", "()B"⟩ : MethodName)) (z := (⟨"java/lang/String", "coder", "()B"⟩ : MethodName)) (w95 hw) (w96 hw) (o_nf W1 rfl (w98 hw)) (w98 hw) (w97 hw) (by decide) E_a1 (argsL := []) (CtrN.back (Wd := 1) W1 (rm7 l Z a0 hw gCS a1 h0 W1.old SgCS NgCS F_a1_coder) (w99 hw) (w3 hw) (by decide) (by decide)) (by rw [hml]; rfl) (lenOf pd7 rfl) (S := [(.int 1)]) rfl (by exact Nat.le_of_eq rfl) (pc' := 9) (hb hy d16_6) rfl (cells' := 0) (slots' := 0) rfl rfl (by decide) (by decide) (wy := []) (fun _ _ _ q => ⟨q.1, q.2.1⟩) all0 (fun _ _ => trivial) ?_
  intro v2 T2 h2 lo2 W2 K2 q2
  obtain rfl := q2.2.2
  show Gl _ _ _ _ _ _ _ _ [(.int 0), (.int 1)]
  refine o_ishr W2 (v := 1) (pc' := 10) (hb hy d16_9) (by decide) rfl ?_
  exact o_retI W2 hlk hret (hb hy d16_10) (by decide) (by decide) rfl
theorem rm54 (l : Launch) (Z : State) (a0 : Array Value) (hw : ∀ d ∈ tables_1, d.before a0 Z = true) (a1 a2 : Addr) (k_a2 : ClassId) (x1 x2 x3 x4 x5 x6 x7 x8 : Int32) (h0 : Heap) (O0 : Old Z Z.heap.size h0) (F_a1_value : Fld Z h0 a1 "java/lang/AbstractStringBuilder" "value" "[B" (.ref a2)) (V_a2 : Arv Z h0 a2 k_a2 .byte (16 : Int32) [(.int x1), (.int x2), (.int x3), (.int x4), (.int x5), (.int x1), (.int x6), (.int x7), (.int x8), (.int 0), (.int 0), (.int 0), (.int 0), (.int 0), (.int 0), (.int 0)] (.int 0)) (F_a1_coder : Fld Z h0 a1 "java/lang/AbstractStringBuilder" "coder" "B" (.int 0)) :
    CtrN l Z (⟨"java/lang/AbstractStringBuilder", "ensureCapacityInternal", "(I)V"⟩ : MethodName) jdk_68_method_9_code 3 none [] (⟨0, 0, 0, 0⟩ : Room) #[(.ref a1), (.int 10)] h0 [] (fun v h => v = none) := by
  refine CtrN.intro (L0 := #[.val (.ref a1), .val (.int 10), .unset]) (plainFor_of_name pn2) O0 (own_entry rfl) ?_
  intro p e s m below meth c T0 hy hml hret hlk hnm W0
  refine o_aloadN W0 (pc' := 1) (hb hy d18_0) rfl rfl rfl ?_
  refine o_getF W0 (w75 hw) Via.refl F_a1_value (pc' := 4) (hb hy d18_1) rfl ?_
  intro T1 W1
  refine o_len W1 V_a2 (pc' := 5) (hb hy d18_4) rfl ?_
  refine o_aloadN W1 (pc' := 6) (hb hy d18_5) rfl rfl rfl ?_
  refine o_getF W1 (w77 hw) Via.refl F_a1_coder (pc' := 9) (hb hy d18_6) rfl ?_
  intro T2 W2
  refine o_ishr W2 (v := 16) (pc' := 10) (hb hy d18_9) (by decide) rfl ?_
  refine o_istoreN W2 (L' := #[.val (.ref a1), .val (.int 10), .val (.int 16)]) (pc' := 11) (hb hy d18_10) rfl rfl ?_
  refine o_iloadN W2 (pc' := 12) (hb hy d18_11) rfl rfl ?_
  refine o_iloadN W2 (pc' := 13) (hb hy d18_12) rfl rfl ?_
  refine o_isub W2 (v := (-6 : Int32)) (pc' := 14) (hb hy d18_13) (by decide) rfl ?_
  refine o_ifY W2 (pc' := 38) (hb hy d18_14) (XT.i0_le_t (by decide)) (by decide) rfl ?_
  exact o_ret0 W2 hlk hret (hb hy d18_38) (by decide) (by decide) rfl
theorem rm55 (l : Launch) (Z : State) (a0 : Array Value) (hw : ∀ d ∈ tables_1, d.before a0 Z = true) (gCS : Int32) (a1 a2 a3 : Addr) (k_a3 : ClassId) (x1 : Int32) (k_a2 : ClassId) (x2 x3 x4 x5 x6 x7 x8 x9 : Int32) (h0 : Heap) (O0 : Old Z Z.heap.size h0) (E_a1 : Exa Z h0 a1 "java/lang/String") (SgCS : Sta Z Z.heap "java/lang/String" "COMPACT_STRINGS" "Z" (.int gCS)) (NgCS : ¬ (gCS = (0 : Int32))) (F_a1_coder : Fld Z h0 a1 "java/lang/String" "coder" "B" (.int 0)) (F_a1_value : Fld Z h0 a1 "java/lang/String" "value" "[B" (.ref a3)) (V_a3 : Arv Z h0 a3 k_a3 .byte (1 : Int32) [(.int (StrChars.lo8 x1))] (.int 0)) (V_a2 : Arv Z h0 a2 k_a2 .byte (16 : Int32) [(.int x2), (.int x3), (.int x4), (.int x5), (.int x6), (.int x2), (.int x7), (.int x8), (.int x9), (.int 0), (.int 0), (.int 0), (.int 0), (.int 0), (.int 0), (.int 0)] (.int 0)) (g_a2 : Z.heap.size ≤ a2) :
    CtrN l Z (⟨"java/lang/String", "getBytes", "([BIB)V"⟩ : MethodName) jdk_42_method_147_code 4 none [] (⟨1, 0, 0, 27⟩ : Room) #[(.ref a1), (.ref a2), (.int 9), (.int 0)] h0 [a2] (fun v h => Arv Z h a2 k_a2 .byte (16 : Int32) [(.int x2), (.int x3), (.int x4), (.int x5), (.int x6), (.int x2), (.int x7), (.int x8), (.int x9), (.int (StrChars.lo8 x1)), (.int 0), (.int 0), (.int 0), (.int 0), (.int 0), (.int 0)] (.int 0) ∧ v = none) := by
  refine CtrN.intro (L0 := #[.val (.ref a1), .val (.ref a2), .val (.int 9), .val (.int 0)]) (plainFor_of_name pn4) O0 (own_entry rfl) ?_
  intro p e s m below meth c T0 hy hml hret hlk hnm W0
  refine o_aloadN W0 (pc' := 1) (hb hy d21_0) rfl rfl rfl ?_
  refine o_virtual W0 (y := (⟨"java/lang/String", "coder", "()B"⟩ : MethodName)) (z := (⟨"java/lang/String", "coder", "()B"⟩ : MethodName)) (w95 hw) (w96 hw) (o_nf W0 rfl (w98 hw)) (w98 hw) (w97 hw) (by decide) E_a1 (argsL := []) (CtrN.back (Wd := 0) W0 (rm7 l Z a0 hw gCS a1 h0 W0.old SgCS NgCS F_a1_coder) (w99 hw) (w3 hw) (by decide) (by decide)) (by rw [hml]; rfl) (lenOf pd7 rfl) (S := []) rfl (by exact Nat.le_of_eq rfl) (pc' := 4) (hb hy d21_1) rfl (cells' := 0) (slots' := 0) rfl rfl (by decide) (by decide) (wy := []) (fun _ _ _ q => ⟨q.1, q.2.1⟩) all0 (fun _ _ => trivial) ?_
  intro v1 T1 h1 lo1 W1 K1 q1
  obtain rfl := q1.2.2
  show Gl _ _ _ _ _ _ _ _ [(.int 0)]
  refine o_iloadN W1 (pc' := 5) (hb hy d21_4) rfl rfl ?_
  refine o_icmpN W1 (pc' := 8) (hb hy d21_5) (XT.ii_ne_f (by decide)) rfl ?_
  refine o_aloadN W1 (pc' := 9) (hb hy d21_8) rfl rfl rfl ?_
  have c2 := (F_a1_value.keep K1 nin0)
  refine o_getF W1 (w20 hw) Via.refl c2 (pc' := 12) (hb hy d21_9) rfl ?_
  intro T3 W3
  refine o_iconst W3 (v := 0) (pc' := 13) (hb hy d21_12) rfl rfl ?_
  refine o_aloadN W3 (pc' := 14) (hb hy d21_13) rfl rfl rfl ?_
  refine o_iloadN W3 (pc' := 15) (hb hy d21_14) rfl rfl ?_
  refine o_iloadN W3 (pc' := 16) (hb hy d21_15) rfl rfl ?_
  refine o_ishl W3 (v := 9) (pc' := 17) (hb hy d21_16) (by decide) rfl ?_
  refine o_aloadN W3 (pc' := 18) (hb hy d21_17) rfl rfl rfl ?_
  refine o_getF W3 (w20 hw) Via.refl c2 (pc' := 21) (hb hy d21_18) rfl ?_
  intro T4 W4
  have c5 := (V_a3.keep K1 nin0)
  refine o_len W4 c5 (pc' := 22) (hb hy d21_21) rfl ?_
  have c6 := (V_a2.keep K1 nin0)
  refine o_copy W4 (w123 hw) (w126 hw) (w124 hw) (w125 hw) c5 c6 (us := [(.int (StrChars.lo8 x1))]) (Or.inl ⟨rfl, rfl⟩) (by decide) (by decide) (by decide) (by decide) (by decide) rfl (Nat.le_of_ble_eq_true rfl) (vd' := [(.int x2), (.int x3), (.int x4), (.int x5), (.int x6), (.int x2), (.int x7), (.int x8), (.int x9), (.int (StrChars.lo8 x1)), (.int 0), (.int 0), (.int 0), (.int 0), (.int 0), (.int 0)]) rfl g_a2 (Or.inl (List.mem_of_getElem? (i := 0) rfl)) (fun _ _ => trivial) (by rw [hml]; rfl) (pc' := 25) (hb hy d21_22) rfl (by decide) 0 (by exact Nat.le_of_eq rfl) (by decide) ?_
  intro T7 h7 lo7 W7 K7 V7
  refine o_goto W7 (pc' := 43) (hb hy d21_25) (by decide) rfl ?_
  exact o_ret0 W7 hlk hret (hb hy d21_43) (by decide) (by decide) ⟨V7, rfl⟩
theorem rm56 (l : Launch) (Z : State) (a0 : Array Value) (hw : ∀ d ∈ tables_1, d.before a0 Z = true) (gCS : Int32) (a1 a2 a3 a4 : Addr) (k_a4 : ClassId) (x1 : Int32) (k_a3 : ClassId) (x2 x3 x4 x5 x6 x7 x8 x9 : Int32) (h0 : Heap) (O0 : Old Z Z.heap.size h0) (E_a1 : Exa Z h0 a1 "java/lang/StringBuilder") (SgCS : Sta Z Z.heap "java/lang/String" "COMPACT_STRINGS" "Z" (.int gCS)) (NgCS : ¬ (gCS = (0 : Int32))) (F_a1_coder : Fld Z h0 a1 "java/lang/AbstractStringBuilder" "coder" "B" (.int 0)) (E_a2 : Exa Z h0 a2 "java/lang/String") (F_a2_coder : Fld Z h0 a2 "java/lang/String" "coder" "B" (.int 0)) (F_a1_value : Fld Z h0 a1 "java/lang/AbstractStringBuilder" "value" "[B" (.ref a3)) (F_a2_value : Fld Z h0 a2 "java/lang/String" "value" "[B" (.ref a4)) (V_a4 : Arv Z h0 a4 k_a4 .byte (1 : Int32) [(.int (StrChars.lo8 x1))] (.int 0)) (V_a3 : Arv Z h0 a3 k_a3 .byte (16 : Int32) [(.int x2), (.int x3), (.int x4), (.int x5), (.int x6), (.int x2), (.int x7), (.int x8), (.int x9), (.int 0), (.int 0), (.int 0), (.int 0), (.int 0), (.int 0), (.int 0)] (.int 0)) (g_a3 : Z.heap.size ≤ a3) :
    CtrN l Z (⟨"java/lang/AbstractStringBuilder", "putStringAt", "(ILjava/lang/String;)V"⟩ : MethodName) jdk_68_method_73_code 3 none [] (⟨2, 0, 0, 42⟩ : Room) #[(.ref a1), (.int 9), (.ref a2)] h0 [a3] (fun v h => Arv Z h a3 k_a3 .byte (16 : Int32) [(.int x2), (.int x3), (.int x4), (.int x5), (.int x6), (.int x2), (.int x7), (.int x8), (.int x9), (.int (StrChars.lo8 x1)), (.int 0), (.int 0), (.int 0), (.int 0), (.int 0), (.int 0)] (.int 0) ∧ v = none) := by
  refine CtrN.intro (L0 := #[.val (.ref a1), .val (.int 9), .val (.ref a2)]) (plainFor_of_name pn2) O0 (own_entry rfl) ?_
  intro p e s m below meth c T0 hy hml hret hlk hnm W0
  refine o_aloadN W0 (pc' := 1) (hb hy d19_0) rfl rfl rfl ?_
  refine o_aloadN W0 (pc' := 2) (hb hy d19_1) rfl rfl rfl ?_
  refine o_private W0 (y := (⟨"java/lang/AbstractStringBuilder", "inflateIfNeededFor", "(Ljava/lang/String;)V"⟩ : MethodName)) (w112 hw) (w113 hw) (w115 hw) (w114 hw) (w116 hw) (by decide) E_a1 (argsL := [(.ref a2)]) (CtrN.back (Wd := 0) W0 (rm10 l Z a0 hw gCS a1 a2 h0 W0.old SgCS NgCS F_a1_coder E_a2 F_a2_coder) (w116 hw) (w71 hw) (by decide) (by decide)) (by rw [hml]; rfl) (lenOf pd2 rfl) (S := []) rfl (by exact Nat.le_of_eq rfl) (pc' := 5) (hb hy d19_2) rfl (cells' := 0) (slots' := 0) rfl rfl (by decide) (by decide) (wy := []) (fun _ _ _ q => ⟨q.1, q.2.1⟩) all0 (fun _ _ => trivial) ?_
  intro v1 T1 h1 lo1 W1 K1 q1
  obtain rfl := q1.2.2
  show Gl _ _ _ _ _ _ _ _ []
  refine o_aloadN W1 (pc' := 6) (hb hy d19_5) rfl rfl rfl ?_
  refine o_aloadN W1 (pc' := 7) (hb hy d19_6) rfl rfl rfl ?_
  have c2 := (F_a1_value.keep K1 nin0)
  refine o_getF W1 (w75 hw) Via.refl c2 (pc' := 10) (hb hy d19_7) rfl ?_
  intro T3 W3
  refine o_iloadN W3 (pc' := 11) (hb hy d19_10) rfl rfl ?_
  refine o_aloadN W3 (pc' := 12) (hb hy d19_11) rfl rfl rfl ?_
  have c4 := (F_a1_coder.keep K1 nin0)
  refine o_getF W3 (w77 hw) Via.refl c4 (pc' := 15) (hb hy d19_12) rfl ?_
  intro T5 W5
  have c6 := (F_a2_coder.keep K1 nin0)
  have c7 := (F_a2_value.keep K1 nin0)
  have c8 := (V_a4.keep K1 nin0)
  have c9 := (V_a3.keep K1 nin0)
  have c10 := (E_a2.keep K1)
  refine o_virtual W5 (y := (⟨"java/lang/String", "getBytes", "([BIB)V"⟩ : MethodName)) (z := (⟨"java/lang/String", "getBytes", "([BIB)V"⟩ : MethodName)) (w118 hw) (w119 hw) (o_nf W5 rfl (w121 hw)) (w121 hw) (w120 hw) (by decide) c10 (argsL := [(.ref a3), (.int 9), (.int 0)]) (CtrN.back (Wd := 0) W5 (rm55 l Z a0 hw gCS a2 a3 a4 k_a4 x1 k_a3 x2 x3 x4 x5 x6 x7 x8 x9 h1 W5.old c10 SgCS NgCS c6 c7 c8 c9 g_a3) (w122 hw) (w3 hw) (by decide) (by decide)) (by rw [hml]; rfl) (lenOf pd9 rfl) (S := []) rfl (by exact Nat.le_of_eq rfl) (pc' := 18) (hb hy d19_15) rfl (cells' := 0) (slots' := 0) rfl rfl (by decide) (by decide) (wy := [a3]) (fun _ _ _ q => ⟨q.1, q.2.1⟩) (allS ⟨g_a3, (Or.inl (List.mem_of_getElem? (i := 0) rfl))⟩ all0) (fun _ _ => trivial) ?_
  intro v11 T11 h11 lo11 W11 K11 q11
  obtain ⟨P11_0, rfl⟩ := q11.2.2
  show Gl _ _ _ _ _ _ _ _ []
  exact o_ret0 W11 hlk hret (hb hy d19_18) (by decide) (by decide) ⟨P11_0, rfl⟩
theorem rm57 (l : Launch) (Z : State) (a0 : Array Value) (hw : ∀ d ∈ tables_1, d.before a0 Z = true) (gCS : Int32) (a1 a2 a3 : Addr) (k_a3 : ClassId) (x1 : Int32) (a4 : Addr) (k_a4 : ClassId) (x2 x3 x4 x5 x6 x7 x8 x9 : Int32) (h0 : Heap) (O0 : Old Z Z.heap.size h0) (E_a2 : Exa Z h0 a2 "java/lang/String") (F_a2_value : Fld Z h0 a2 "java/lang/String" "value" "[B" (.ref a3)) (V_a3 : Arv Z h0 a3 k_a3 .byte (1 : Int32) [(.int (StrChars.lo8 x1))] (.int 0)) (SgCS : Sta Z Z.heap "java/lang/String" "COMPACT_STRINGS" "Z" (.int gCS)) (NgCS : ¬ (gCS = (0 : Int32))) (F_a2_coder : Fld Z h0 a2 "java/lang/String" "coder" "B" (.int 0)) (F_a1_count : Fld Z h0 a1 "java/lang/AbstractStringBuilder" "count" "I" (.int 9)) (E_a1 : Exa Z h0 a1 "java/lang/StringBuilder") (F_a1_value : Fld Z h0 a1 "java/lang/AbstractStringBuilder" "value" "[B" (.ref a4)) (V_a4 : Arv Z h0 a4 k_a4 .byte (16 : Int32) [(.int x2), (.int x3), (.int x4), (.int x5), (.int x6), (.int x2), (.int x7), (.int x8), (.int x9), (.int 0), (.int 0), (.int 0), (.int 0), (.int 0), (.int 0), (.int 0)] (.int 0)) (F_a1_coder : Fld Z h0 a1 "java/lang/AbstractStringBuilder" "coder" "B" (.int 0)) (g_a4 : Z.heap.size ≤ a4) (g_a1 : Z.heap.size ≤ a1) :
    CtrN l Z (⟨"java/lang/AbstractStringBuilder", "append", "(Ljava/lang/String;)Ljava/lang/AbstractStringBuilder;"⟩ : MethodName) jdk_68_method_22_code 3 (some (.object "java/lang/AbstractStringBuilder")) [] (⟨3, 0, 0, 56⟩ : Room) #[(.ref a1), (.ref a2)] h0 [a4, a1] (fun v h => Fld Z h a1 "java/lang/AbstractStringBuilder" "count" "I" (.int 10) ∧ Fld Z h a1 "java/lang/AbstractStringBuilder" "value" "[B" (.ref a4) ∧ Arv Z h a4 k_a4 .byte (16 : Int32) [(.int x2), (.int x3), (.int x4), (.int x5), (.int x6), (.int x2), (.int x7), (.int x8), (.int x9), (.int (StrChars.lo8 x1)), (.int 0), (.int 0), (.int 0), (.int 0), (.int 0), (.int 0)] (.int 0) ∧ Fld Z h a1 "java/lang/AbstractStringBuilder" "coder" "B" (.int 0) ∧ v = some (.ref a1)) := by
  refine CtrN.intro (L0 := #[.val (.ref a1), .val (.ref a2), .unset]) (plainFor_of_name pn2) O0 (own_entry rfl) ?_
  intro p e s m below meth c T0 hy hml hret hlk hnm W0
  refine o_aloadN W0 (pc' := 1) (hb hy d15_0) rfl rfl rfl ?_
  refine o_ifnonnullY W0 (pc' := 9) (hb hy d15_1) (by decide) rfl ?_
  refine o_aloadN W0 (pc' := 10) (hb hy d15_9) rfl rfl rfl ?_
  refine o_virtual W0 (y := (⟨"java/lang/String", "length", "()I"⟩ : MethodName)) (z := (⟨"java/lang/String", "length", "()I"⟩ : MethodName)) (w90 hw) (w91 hw) (o_nf W0 rfl (w93 hw)) (w93 hw) (w92 hw) (by decide) E_a2 (argsL := []) (CtrN.back (Wd := 0) W0 (rm53 l Z a0 hw gCS a2 a3 k_a3 x1 h0 W0.old F_a2_value V_a3 E_a2 SgCS NgCS F_a2_coder) (w94 hw) (w3 hw) (by decide) (by decide)) (by rw [hml]; rfl) (lenOf pd8 rfl) (S := []) rfl (by exact Nat.le_of_eq rfl) (pc' := 13) (hb hy d15_10) rfl (cells' := 0) (slots' := 0) rfl rfl (by decide) (by decide) (wy := []) (fun _ _ _ q => ⟨q.1, q.2.1⟩) all0 (fun _ _ => trivial) ?_
  intro v1 T1 h1 lo1 W1 K1 q1
  obtain rfl := q1.2.2
  show Gl _ _ _ _ _ _ _ _ [(.int 1)]
  refine o_istoreN W1 (L' := #[.val (.ref a1), .val (.ref a2), .val (.int 1)]) (pc' := 14) (hb hy d15_13) rfl rfl ?_
  refine o_aloadN W1 (pc' := 15) (hb hy d15_14) rfl rfl rfl ?_
  refine o_aloadN W1 (pc' := 16) (hb hy d15_15) rfl rfl rfl ?_
  have c2 := (F_a1_count.keep K1 nin0)
  refine o_getF W1 (w100 hw) Via.refl c2 (pc' := 19) (hb hy d15_16) rfl ?_
  intro T3 W3
  refine o_iloadN W3 (pc' := 20) (hb hy d15_19) rfl rfl ?_
  refine o_iadd W3 (v := 10) (pc' := 21) (hb hy d15_20) (by decide) rfl ?_
  have c4 := (E_a1.keep K1)
  have c5 := (F_a1_value.keep K1 nin0)
  have c6 := (V_a4.keep K1 nin0)
  have c7 := (F_a1_coder.keep K1 nin0)
  refine o_private W3 (y := (⟨"java/lang/AbstractStringBuilder", "ensureCapacityInternal", "(I)V"⟩ : MethodName)) (w102 hw) (w103 hw) (w105 hw) (w104 hw) (w106 hw) (by decide) c4 (argsL := [(.int 10)]) (CtrN.back (Wd := 0) W3 (rm54 l Z a0 hw a1 a4 k_a4 x2 x3 x4 x5 x6 x7 x8 x9 h1 W3.old c5 c6 c7) (w106 hw) (w71 hw) (by decide) (by decide)) (by rw [hml]; rfl) (lenOf pd5 rfl) (S := []) rfl (by exact Nat.le_of_eq rfl) (pc' := 24) (hb hy d15_21) rfl (cells' := 0) (slots' := 0) rfl rfl (by decide) (by decide) (wy := []) (fun _ _ _ q => ⟨q.1, q.2.1⟩) all0 (fun _ _ => trivial) ?_
  intro v8 T8 h8 lo8 W8 K8 q8
  obtain rfl := q8.2.2
  show Gl _ _ _ _ _ _ _ _ []
  refine o_aloadN W8 (pc' := 25) (hb hy d15_24) rfl rfl rfl ?_
  refine o_aloadN W8 (pc' := 26) (hb hy d15_25) rfl rfl rfl ?_
  have c9 := (c2.keep K8 nin0)
  refine o_getF W8 (w100 hw) Via.refl c9 (pc' := 29) (hb hy d15_26) rfl ?_
  intro T10 W10
  refine o_aloadN W10 (pc' := 30) (hb hy d15_29) rfl rfl rfl ?_
  have c11 := (c7.keep K8 nin0)
  have c12 := ((F_a2_coder.keep K1 nin0).keep K8 nin0)
  have c13 := (c5.keep K8 nin0)
  have c14 := ((F_a2_value.keep K1 nin0).keep K8 nin0)
  have c15 := ((V_a3.keep K1 nin0).keep K8 nin0)
  have c16 := (c6.keep K8 nin0)
  have c17 := (c4.keep K8)
  have c18 := ((E_a2.keep K1).keep K8)
  refine o_private W10 (y := (⟨"java/lang/AbstractStringBuilder", "putStringAt", "(ILjava/lang/String;)V"⟩ : MethodName)) (w107 hw) (w108 hw) (w110 hw) (w109 hw) (w111 hw) (by decide) c17 (argsL := [(.int 9), (.ref a2)]) (CtrN.back (Wd := 0) W10 (rm56 l Z a0 hw gCS a1 a2 a4 a3 k_a3 x1 k_a4 x2 x3 x4 x5 x6 x7 x8 x9 h8 W10.old c17 SgCS NgCS c11 c18 c12 c13 c14 c15 c16 g_a4) (w111 hw) (w71 hw) (by decide) (by decide)) (by rw [hml]; rfl) (lenOf pd10 rfl) (S := []) rfl (by exact Nat.le_of_eq rfl) (pc' := 33) (hb hy d15_30) rfl (cells' := 0) (slots' := 0) rfl rfl (by decide) (by decide) (wy := [a4]) (fun _ _ _ q => ⟨q.1, q.2.1⟩) (allS ⟨g_a4, (Or.inl (List.mem_of_getElem? (i := 0) rfl))⟩ all0) (fun _ _ => trivial) ?_
  intro v19 T19 h19 lo19 W19 K19 q19
  obtain ⟨P19_0, rfl⟩ := q19.2.2
  show Gl _ _ _ _ _ _ _ _ []
  refine o_aloadN W19 (pc' := 34) (hb hy d15_33) rfl rfl rfl ?_
  refine o_dup W19 (pc' := 35) (hb hy d15_34) rfl rfl ?_
  have c20 := (c17.keep K19)
  have c21 := (c9.keep K19 (ninS (Exa.neArv c17 c16 (w62 hw)) nin0))
  refine o_getF W19 (w100 hw) Via.refl c21 (pc' := 38) (hb hy d15_35) rfl ?_
  intro T22 W22
  refine o_iloadN W22 (pc' := 39) (hb hy d15_38) rfl rfl ?_
  refine o_iadd W22 (v := 10) (pc' := 40) (hb hy d15_39) (by decide) rfl ?_
  refine o_putF W22 (w100 hw) Via.refl c21 c20 (Or.inl (w101 hw)) (w62 hw) (ty := .int) (v' := (.int 10)) (by decide) rfl rfl g_a1 (Or.inl (List.mem_of_getElem? (i := 1) rfl)) (fun _ _ => trivial) (pc' := 43) (hb hy d15_40) rfl ?_
  intro T23 h23 lo23 W23 R23
  have F23 := c21.same R23
  refine o_aloadN W23 (pc' := 44) (hb hy d15_43) rfl rfl rfl ?_
  have c24 := (c20.wr R23)
  have c25 := ((c13.keep K19 (ninS (Exa.neArv c17 c16 (w62 hw)) nin0)).other R23 (Or.inr (slot_ne (Or.inl (w76 hw)) (Or.inl (w101 hw)) (by decide) (t := (.array .byte)) (t' := .int) (by decide) (by decide))))
  have c26 := ((c11.keep K19 (ninS (Exa.neArv c17 c16 (w62 hw)) nin0)).other R23 (Or.inr (slot_ne (Or.inl (w78 hw)) (Or.inl (w101 hw)) (by decide) (t := .byte) (t' := .int) (by decide) (by decide))))
  have c27 := (P19_0.other R23 (Ne.symm (Exa.neArv c20 P19_0 (w62 hw))))
  exact o_retA W23 hlk (v := (.ref a1)) hret rfl rfl (hb hy d15_44) (by decide) (by decide) ⟨F23, c25, c27, c26, rfl⟩
theorem rm58 (l : Launch) (Z : State) (a0 : Array Value) (hw : ∀ d ∈ tables_1, d.before a0 Z = true) (gCS : Int32) (a1 a2 a3 : Addr) (k_a3 : ClassId) (x1 : Int32) (a4 : Addr) (k_a4 : ClassId) (x2 x3 x4 x5 x6 x7 x8 x9 : Int32) (h0 : Heap) (O0 : Old Z Z.heap.size h0) (E_a2 : Exa Z h0 a2 "java/lang/String") (F_a2_value : Fld Z h0 a2 "java/lang/String" "value" "[B" (.ref a3)) (V_a3 : Arv Z h0 a3 k_a3 .byte (1 : Int32) [(.int (StrChars.lo8 x1))] (.int 0)) (SgCS : Sta Z Z.heap "java/lang/String" "COMPACT_STRINGS" "Z" (.int gCS)) (NgCS : ¬ (gCS = (0 : Int32))) (F_a2_coder : Fld Z h0 a2 "java/lang/String" "coder" "B" (.int 0)) (F_a1_count : Fld Z h0 a1 "java/lang/AbstractStringBuilder" "count" "I" (.int 9)) (E_a1 : Exa Z h0 a1 "java/lang/StringBuilder") (F_a1_value : Fld Z h0 a1 "java/lang/AbstractStringBuilder" "value" "[B" (.ref a4)) (V_a4 : Arv Z h0 a4 k_a4 .byte (16 : Int32) [(.int x2), (.int x3), (.int x4), (.int x5), (.int x6), (.int x2), (.int x7), (.int x8), (.int x9), (.int 0), (.int 0), (.int 0), (.int 0), (.int 0), (.int 0), (.int 0)] (.int 0)) (F_a1_coder : Fld Z h0 a1 "java/lang/AbstractStringBuilder" "coder" "B" (.int 0)) (g_a4 : Z.heap.size ≤ a4) (g_a1 : Z.heap.size ≤ a1) :
    CtrN l Z (⟨"java/lang/StringBuilder", "append", "(Ljava/lang/String;)Ljava/lang/StringBuilder;"⟩ : MethodName) jdk_67_method_7_code 2 (some (.object "java/lang/StringBuilder")) [] (⟨4, 0, 0, 70⟩ : Room) #[(.ref a1), (.ref a2)] h0 [a1, a4] (fun v h => Fld Z h a1 "java/lang/AbstractStringBuilder" "count" "I" (.int 10) ∧ Fld Z h a1 "java/lang/AbstractStringBuilder" "value" "[B" (.ref a4) ∧ Arv Z h a4 k_a4 .byte (16 : Int32) [(.int x2), (.int x3), (.int x4), (.int x5), (.int x6), (.int x2), (.int x7), (.int x8), (.int x9), (.int (StrChars.lo8 x1)), (.int 0), (.int 0), (.int 0), (.int 0), (.int 0), (.int 0)] (.int 0) ∧ Fld Z h a1 "java/lang/AbstractStringBuilder" "coder" "B" (.int 0) ∧ v = some (.ref a1)) := by
  refine CtrN.intro (L0 := #[.val (.ref a1), .val (.ref a2)]) (plainFor_of_name pn3) O0 (own_entry rfl) ?_
  intro p e s m below meth c T0 hy hml hret hlk hnm W0
  refine o_aloadN W0 (pc' := 1) (hb hy d14_0) rfl rfl rfl ?_
  refine o_aloadN W0 (pc' := 2) (hb hy d14_1) rfl rfl rfl ?_
  refine o_super W0 (y := (⟨"java/lang/AbstractStringBuilder", "append", "(Ljava/lang/String;)Ljava/lang/AbstractStringBuilder;"⟩ : MethodName)) (by decide) (w85 hw) (w86 hw) (own_sameN (y := (⟨"java/lang/AbstractStringBuilder", "append", "(Ljava/lang/String;)Ljava/lang/AbstractStringBuilder;"⟩ : MethodName)) (y2 := (⟨"java/lang/AbstractStringBuilder", "ensureCapacityInternal", "(I)V"⟩ : MethodName)) (by decide) (w86 hw) rfl (w103 hw) (w105 hw)) (w87 hw) (w89 hw) (Ins.self E_a1) (argsL := [(.ref a2)]) (CtrN.back (Wd := 0) W0 (rm57 l Z a0 hw gCS a1 a2 a3 k_a3 x1 a4 k_a4 x2 x3 x4 x5 x6 x7 x8 x9 h0 W0.old E_a2 F_a2_value V_a3 SgCS NgCS F_a2_coder F_a1_count E_a1 F_a1_value V_a4 F_a1_coder g_a4 g_a1) (w89 hw) (w71 hw) (by decide) (by decide)) (by rw [hml]; rfl) (lenOf pd11 rfl) (S := []) rfl (by exact Nat.le_of_eq rfl) (pc' := 5) (hb hy d14_2) rfl (cells' := 0) (slots' := 0) rfl rfl (by decide) (by decide) (wy := [a4, a1]) (fun _ _ _ q => ⟨q.1, q.2.1⟩) (allS ⟨g_a4, (Or.inl (List.mem_of_getElem? (i := 1) rfl))⟩ (allS ⟨g_a1, (Or.inl (List.mem_of_getElem? (i := 0) rfl))⟩ all0)) (fun _ _ => trivial) ?_
  intro v1 T1 h1 lo1 W1 K1 q1
  obtain ⟨P1_0, P1_1, P1_2, P1_3, rfl⟩ := q1.2.2
  show Gl _ _ _ _ _ _ _ _ [(.ref a1)]
  refine o_pop W1 (pc' := 6) (hb hy d14_5) rfl rfl ?_
  refine o_aloadN W1 (pc' := 7) (hb hy d14_6) rfl rfl rfl ?_
  have c2 := (E_a1.keep K1)
  exact o_retA W1 hlk (v := (.ref a1)) hret rfl rfl (hb hy d14_7) (by decide) (by decide) ⟨P1_0, P1_1, P1_2, P1_3, rfl⟩
theorem rm59 (l : Launch) (Z : State) (a0 : Array Value) (hw : ∀ d ∈ tables_1, d.before a0 Z = true) (a1 : Addr) (h0 : Heap) (O0 : Old Z Z.heap.size h0) (F_a1_count : Fld Z h0 a1 "java/lang/AbstractStringBuilder" "count" "I" (.int 10)) :
    CtrN l Z (⟨"java/lang/AbstractStringBuilder", "length", "()I"⟩ : MethodName) jdk_68_method_6_code 1 (some .int) [] (⟨0, 0, 0, 0⟩ : Room) #[(.ref a1)] h0 [] (fun v h => v = some (.int 10)) := by
  refine CtrN.intro (L0 := #[.val (.ref a1)]) (plainFor_of_name pn2) O0 (own_entry rfl) ?_
  intro p e s m below meth c T0 hy hml hret hlk hnm W0
  refine o_aloadN W0 (pc' := 1) (hb hy d27_0) rfl rfl rfl ?_
  refine o_getF W0 (w100 hw) Via.refl F_a1_count (pc' := 4) (hb hy d27_1) rfl ?_
  intro T1 W1
  exact o_retI W1 hlk hret (hb hy d27_4) (by decide) (by decide) rfl
theorem rm60 (l : Launch) (Z : State) (a0 : Array Value) (hw : ∀ d ∈ tables_1, d.before a0 Z = true) (a1 : Addr) (h0 : Heap) (O0 : Old Z Z.heap.size h0) (F_a1_count : Fld Z h0 a1 "java/lang/AbstractStringBuilder" "count" "I" (.int 10)) (E_a1 : Exa Z h0 a1 "java/lang/StringBuilder") :
    CtrN l Z (⟨"java/lang/StringBuilder", "length", "()I"⟩ : MethodName) jdk_67_method_93_code 1 (some .int) [] (⟨1, 0, 0, 12⟩ : Room) #[(.ref a1)] h0 [] (fun v h => v = some (.int 10)) := by
  refine CtrN.intro (L0 := #[.val (.ref a1)]) (plainFor_of_name pn3) O0 (own_entry rfl) ?_
  intro p e s m below meth c T0 hy hml hret hlk hnm W0
  refine o_aloadN W0 (pc' := 1) (hb hy d26_0) rfl rfl rfl ?_
  refine o_super W0 (y := (⟨"java/lang/AbstractStringBuilder", "length", "()I"⟩ : MethodName)) (by decide) (w150 hw) (w146 hw) (own_sameN (y := (⟨"java/lang/AbstractStringBuilder", "length", "()I"⟩ : MethodName)) (y2 := (⟨"java/lang/AbstractStringBuilder", "ensureCapacityInternal", "(I)V"⟩ : MethodName)) (by decide) (w146 hw) rfl (w103 hw) (w105 hw)) (w87 hw) (w151 hw) (Ins.self E_a1) (argsL := []) (CtrN.back (Wd := 0) W0 (rm59 l Z a0 hw a1 h0 W0.old F_a1_count) (w151 hw) (w71 hw) (by decide) (by decide)) (by rw [hml]; rfl) (lenOf pd8 rfl) (S := []) rfl (by exact Nat.le_of_eq rfl) (pc' := 4) (hb hy d26_1) rfl (cells' := 0) (slots' := 0) rfl rfl (by decide) (by decide) (wy := []) (fun _ _ _ q => ⟨q.1, q.2.1⟩) all0 (fun _ _ => trivial) ?_
  intro v1 T1 h1 lo1 W1 K1 q1
  obtain rfl := q1.2.2
  show Gl _ _ _ _ _ _ _ _ [(.int 10)]
  exact o_retI W1 hlk hret (hb hy d26_4) (by decide) (by decide) rfl
theorem rm61 (l : Launch) (Z : State) (a0 : Array Value) (hw : ∀ d ∈ tables_1, d.before a0 Z = true)  (h0 : Heap) (O0 : Old Z Z.heap.size h0) :
    CtrN l Z (⟨"java/util/Arrays", "checkLength", "(II)V"⟩ : MethodName) jdk_65_method_131_code 2 none [] (⟨0, 0, 0, 0⟩ : Room) #[(.int 0), (.int 10)] h0 [] (fun v h => v = none) := by
  refine CtrN.intro (L0 := #[.val (.int 0), .val (.int 10)]) (plainFor_of_name pn5) O0 (own_entry rfl) ?_
  intro p e s m below meth c T0 hy hml hret hlk hnm W0
  refine o_iloadN W0 (pc' := 1) (hb hy d31_0) rfl rfl ?_
  refine o_iloadN W0 (pc' := 2) (hb hy d31_1) rfl rfl ?_
  refine o_icmpY W0 (pc' := 37) (hb hy d31_2) (XT.ii_ge_t (by decide)) (by decide) rfl ?_
  exact o_ret0 W0 hlk hret (hb hy d31_37) (by decide) (by decide) rfl
theorem rm62 (l : Launch) (Z : State) (a0 : Array Value) (hw : ∀ d ∈ tables_1, d.before a0 Z = true)  (h0 : Heap) (O0 : Old Z Z.heap.size h0) :
    CtrN l Z (⟨"java/lang/Math", "min", "(II)I"⟩ : MethodName) jdk_29_method_69_code 2 (some .int) [] (⟨0, 0, 0, 0⟩ : Room) #[(.int 16), (.int 10)] h0 [] (fun v h => v = some (.int 10)) := by
  refine CtrN.intro (L0 := #[.val (.int 16), .val (.int 10)]) (Jvm.Free.JP.mathPlain rfl (by decide +kernel)) O0 (own_entry rfl) ?_
  intro p e s m below meth c T0 hy hml hret hlk hnm W0
  refine o_iloadN W0 (pc' := 1) (hb hy d32_0) rfl rfl ?_
  refine o_iloadN W0 (pc' := 2) (hb hy d32_1) rfl rfl ?_
  refine o_icmpY W0 (pc' := 9) (hb hy d32_2) (XT.ii_gt_t (by decide)) (by decide) rfl ?_
  refine o_iloadN W0 (pc' := 10) (hb hy d32_9) rfl rfl ?_
  exact o_retI W0 hlk hret (hb hy d32_10) (by decide) (by decide) rfl
theorem rm63 (l : Launch) (Z : State) (a0 : Array Value) (hw : ∀ d ∈ tables_1, d.before a0 Z = true) (a1 : Addr) (k_a1 : ClassId) (x1 x2 x3 x4 x5 x6 x7 x8 x9 : Int32) (h0 : Heap) (O0 : Old Z Z.heap.size h0) (V_a1 : Arv Z h0 a1 k_a1 .byte (16 : Int32) [(.int x1), (.int x2), (.int x3), (.int x4), (.int x5), (.int x1), (.int x6), (.int x7), (.int x8), (.int x9), (.int 0), (.int 0), (.int 0), (.int 0), (.int 0), (.int 0)] (.int 0)) :
    CtrN l Z (⟨"java/util/Arrays", "copyOfRangeByte", "([BII)[B"⟩ : MethodName) jdk_65_method_133_code 5 (some (.array .byte)) [] (⟨1, 1, 10, 27⟩ : Room) #[(.ref a1), (.int 0), (.int 10)] h0 [] (fun v h => ∃ r1 : Addr, ∃ r2 : ClassId, h0.size ≤ r1 ∧ Arv Z h r1 r2 .byte (10 : Int32) [(.int x1), (.int x2), (.int x3), (.int x4), (.int x5), (.int x1), (.int x6), (.int x7), (.int x8), (.int x9)] (.int 0) ∧ v = some (.ref r1)) := by
  refine CtrN.intro (L0 := #[.val (.ref a1), .val (.int 0), .val (.int 10), .unset, .unset]) (plainFor_of_name pn5) O0 (own_entry rfl) ?_
  intro p e s m below meth c T0 hy hml hret hlk hnm W0
  refine o_iloadN W0 (pc' := 1) (hb hy d30_0) rfl rfl ?_
  refine o_iloadN W0 (pc' := 2) (hb hy d30_1) rfl rfl ?_
  refine o_static W0 (y := (⟨"java/util/Arrays", "checkLength", "(II)V"⟩ : MethodName)) (w164 hw) (w165 hw) (w159 hw) (w166 hw) (by decide) (argsL := [(.int 0), (.int 10)]) (CtrN.back (Wd := 0) W0 (rm61 l Z a0 hw  h0 W0.old ) (w166 hw) (w159 hw) (by decide) (by decide)) (by rw [hml]; rfl) (lenOf pd14 rfl) (S := []) rfl (by exact Nat.le_of_eq rfl) (pc' := 5) (hb hy d30_2) rfl (cells' := 0) (slots' := 0) rfl rfl (by decide) (by decide) (wy := []) (fun _ _ _ q => ⟨q.1, q.2.1⟩) all0 (fun _ _ => trivial) ?_
  intro v1 T1 h1 lo1 W1 K1 q1
  obtain rfl := q1.2.2
  show Gl _ _ _ _ _ _ _ _ []
  refine o_iloadN W1 (pc' := 6) (hb hy d30_5) rfl rfl ?_
  refine o_iloadN W1 (pc' := 7) (hb hy d30_6) rfl rfl ?_
  refine o_isub W1 (v := 10) (pc' := 8) (hb hy d30_7) (by decide) rfl ?_
  refine o_istoreN W1 (L' := #[.val (.ref a1), .val (.int 0), .val (.int 10), .val (.int 10), .unset]) (pc' := 9) (hb hy d30_8) rfl rfl ?_
  refine o_iloadN W1 (pc' := 10) (hb hy d30_9) rfl rfl ?_
  refine o_newP W1 (aty := .byte) (w15 hw) (fun _ _ => trivial) (by decide) (cap := 10) (by decide) (by decide) (pc' := 12) (hb hy d30_10) rfl (cells' := 1) (slots' := 10) rfl rfl (by decide) (by decide) (vs := [(.int 0), (.int 0), (.int 0), (.int 0), (.int 0), (.int 0), (.int 0), (.int 0), (.int 0), (.int 0)]) (dv := (.int 0)) rfl rfl ?_
  intro b2 T2 h2 k2 W2 E2 ge2 gz2 gb2 V2
  refine o_astore W2 (L' := #[.val (.ref a1), .val (.int 0), .val (.int 10), .val (.int 10), .val (.ref b2)]) (pc' := 14) (hb hy d30_12) rfl rfl rfl ?_
  refine o_aloadN W2 (pc' := 15) (hb hy d30_14) rfl rfl rfl ?_
  refine o_iloadN W2 (pc' := 16) (hb hy d30_15) rfl rfl ?_
  refine o_aload W2 (pc' := 18) (hb hy d30_16) rfl rfl rfl ?_
  refine o_iconst W2 (v := 0) (pc' := 19) (hb hy d30_18) rfl rfl ?_
  refine o_aloadN W2 (pc' := 20) (hb hy d30_19) rfl rfl rfl ?_
  have c3 := ((V_a1.keep K1 nin0).ext E2)
  refine o_len W2 c3 (pc' := 21) (hb hy d30_20) rfl ?_
  refine o_iloadN W2 (pc' := 22) (hb hy d30_21) rfl rfl ?_
  refine o_isub W2 (v := 16) (pc' := 23) (hb hy d30_22) (by decide) rfl ?_
  refine o_iloadN W2 (pc' := 24) (hb hy d30_23) rfl rfl ?_
  refine o_static W2 (y := (⟨"java/lang/Math", "min", "(II)I"⟩ : MethodName)) (w167 hw) (w168 hw) (w169 hw) (w170 hw) (by decide) (argsL := [(.int 16), (.int 10)]) (CtrN.back (Wd := 4) W2 (rm62 l Z a0 hw  h2 W2.old ) (w170 hw) (w169 hw) (by decide) (by decide)) (by rw [hml]; rfl) (lenOf pd15 rfl) (S := [(.int 0), (.ref b2), (.int 0), (.ref a1)]) rfl (by exact Nat.le_of_eq rfl) (pc' := 27) (hb hy d30_24) rfl (cells' := 1) (slots' := 10) rfl rfl (by decide) (by decide) (wy := []) (fun _ _ _ q => ⟨q.1, q.2.1⟩) all0 (fun _ _ => trivial) ?_
  intro v4 T4 h4 lo4 W4 K4 q4
  obtain rfl := q4.2.2
  show Gl _ _ _ _ _ _ _ _ [(.int 10), (.int 0), (.ref b2), (.int 0), (.ref a1)]
  have c5 := (c3.keep K4 nin0)
  have c6 := (V2.keep K4 nin0)
  refine o_copy W4 (w171 hw) (w126 hw) (w124 hw) (w125 hw) c5 c6 (us := [(.int x1), (.int x2), (.int x3), (.int x4), (.int x5), (.int x1), (.int x6), (.int x7), (.int x8), (.int x9)]) (Or.inl ⟨rfl, rfl⟩) (by decide) (by decide) (by decide) (by decide) (by decide) rfl (Nat.le_of_ble_eq_true rfl) (vd' := [(.int x1), (.int x2), (.int x3), (.int x4), (.int x5), (.int x1), (.int x6), (.int x7), (.int x8), (.int x9)]) rfl gz2 (Or.inr gb2) (fun _ _ => trivial) (by rw [hml]; rfl) (pc' := 30) (hb hy d30_27) rfl (by decide) 0 (by exact Nat.le_of_eq rfl) (by decide) ?_
  intro T7 h7 lo7 W7 K7 V7
  refine o_aload W7 (pc' := 32) (hb hy d30_30) rfl rfl rfl ?_
  exact o_retA W7 hlk (v := (.ref b2)) hret rfl rfl (hb hy d30_32) (by decide) (by decide) ⟨b2, k2, gb2, V7, rfl⟩
theorem rm64 (l : Launch) (Z : State) (a0 : Array Value) (hw : ∀ d ∈ tables_1, d.before a0 Z = true) (a1 : Addr) (k_a1 : ClassId) (x1 x2 x3 x4 x5 x6 x7 x8 x9 : Int32) (h0 : Heap) (O0 : Old Z Z.heap.size h0) (V_a1 : Arv Z h0 a1 k_a1 .byte (16 : Int32) [(.int x1), (.int x2), (.int x3), (.int x4), (.int x5), (.int x1), (.int x6), (.int x7), (.int x8), (.int x9), (.int 0), (.int 0), (.int 0), (.int 0), (.int 0), (.int 0)] (.int 0)) :
    CtrN l Z (⟨"java/util/Arrays", "copyOfRange", "([BII)[B"⟩ : MethodName) jdk_65_method_132_code 3 (some (.array .byte)) [] (⟨2, 1, 10, 43⟩ : Room) #[(.ref a1), (.int 0), (.int 10)] h0 [] (fun v h => ∃ r1 : Addr, ∃ r2 : ClassId, h0.size ≤ r1 ∧ Arv Z h r1 r2 .byte (10 : Int32) [(.int x1), (.int x2), (.int x3), (.int x4), (.int x5), (.int x1), (.int x6), (.int x7), (.int x8), (.int x9)] (.int 0) ∧ v = some (.ref r1)) := by
  refine CtrN.intro (L0 := #[.val (.ref a1), .val (.int 0), .val (.int 10)]) (plainFor_of_name pn5) O0 (own_entry rfl) ?_
  intro p e s m below meth c T0 hy hml hret hlk hnm W0
  refine o_iloadN W0 (pc' := 1) (hb hy d29_0) rfl rfl ?_
  refine o_ifN W0 (pc' := 4) (hb hy d29_1) (XT.i0_ne_f (by decide)) rfl ?_
  refine o_iloadN W0 (pc' := 5) (hb hy d29_4) rfl rfl ?_
  refine o_aloadN W0 (pc' := 6) (hb hy d29_5) rfl rfl rfl ?_
  refine o_len W0 V_a1 (pc' := 7) (hb hy d29_6) rfl ?_
  refine o_icmpN W0 (pc' := 10) (hb hy d29_7) (XT.ii_eq_f (by decide)) rfl ?_
  refine o_aloadN W0 (pc' := 11) (hb hy d29_10) rfl rfl rfl ?_
  refine o_iloadN W0 (pc' := 12) (hb hy d29_11) rfl rfl ?_
  refine o_iloadN W0 (pc' := 13) (hb hy d29_12) rfl rfl ?_
  refine o_static W0 (y := (⟨"java/util/Arrays", "copyOfRangeByte", "([BII)[B"⟩ : MethodName)) (w161 hw) (w162 hw) (w159 hw) (w163 hw) (by decide) (argsL := [(.ref a1), (.int 0), (.int 10)]) (CtrN.back (Wd := 0) W0 (rm63 l Z a0 hw a1 k_a1 x1 x2 x3 x4 x5 x6 x7 x8 x9 h0 W0.old V_a1) (w163 hw) (w159 hw) (by decide) (by decide)) (by rw [hml]; rfl) (lenOf pd16 rfl) (S := []) rfl (by exact Nat.le_of_eq rfl) (pc' := 16) (hb hy d29_13) rfl (cells' := 1) (slots' := 10) rfl rfl (by decide) (by decide) (wy := []) (fun _ _ _ q => ⟨q.1, q.2.1⟩) all0 (fun _ _ => trivial) ?_
  intro v1 T1 h1 lo1 W1 K1 q1
  obtain ⟨r1_1, r2_1, P1_0, P1_1, rfl⟩ := q1.2.2
  show Gl _ _ _ _ _ _ _ _ [(.ref r1_1)]
  exact o_retA W1 hlk (v := (.ref r1_1)) hret rfl rfl (hb hy d29_16) (by decide) (by decide) ⟨r1_1, r2_1, (Nat.le_trans W0.keep.1 P1_0), P1_1, rfl⟩
theorem rm65 (l : Launch) (Z : State) (a0 : Array Value) (hw : ∀ d ∈ tables_1, d.before a0 Z = true) (gCS : Int32) (a1 a2 a3 : Addr) (k_a3 : ClassId) (x1 x2 x3 x4 x5 x6 x7 x8 x9 : Int32) (h0 : Heap) (O0 : Old Z Z.heap.size h0) (E_a2 : Exa Z h0 a2 "java/lang/StringBuilder") (F_a2_value : Fld Z h0 a2 "java/lang/AbstractStringBuilder" "value" "[B" (.ref a3)) (F_a2_count : Fld Z h0 a2 "java/lang/AbstractStringBuilder" "count" "I" (.int 10)) (SgCS : Sta Z Z.heap "java/lang/String" "COMPACT_STRINGS" "Z" (.int gCS)) (NgCS : ¬ (gCS = (0 : Int32))) (F_a2_coder : Fld Z h0 a2 "java/lang/AbstractStringBuilder" "coder" "B" (.int 0)) (E_a1 : Exa Z h0 a1 "java/lang/String") (F_a1_coder : Fld Z h0 a1 "java/lang/String" "coder" "B" (.int 0)) (g_a1 : Z.heap.size ≤ a1) (V_a3 : Arv Z h0 a3 k_a3 .byte (16 : Int32) [(.int x1), (.int x2), (.int x3), (.int x4), (.int x5), (.int x1), (.int x6), (.int x7), (.int x8), (.int x9), (.int 0), (.int 0), (.int 0), (.int 0), (.int 0), (.int 0)] (.int 0)) (F_a1_value : Fld Z h0 a1 "java/lang/String" "value" "[B" .null) :
    CtrN l Z (⟨"java/lang/String", "<init>", "(Ljava/lang/AbstractStringBuilder;Ljava/lang/Void;)V"⟩ : MethodName) jdk_42_method_150_code 5 none [] (⟨3, 1, 10, 58⟩ : Room) #[(.ref a1), (.ref a2), .null] h0 [a1] (fun v h => ∃ r1 : Addr, ∃ r2 : ClassId, h0.size ≤ r1 ∧ Fld Z h a1 "java/lang/String" "coder" "B" (.int 0) ∧ Fld Z h a1 "java/lang/String" "value" "[B" (.ref r1) ∧ Arv Z h r1 r2 .byte (10 : Int32) [(.int x1), (.int x2), (.int x3), (.int x4), (.int x5), (.int x1), (.int x6), (.int x7), (.int x8), (.int x9)] (.int 0) ∧ v = none) := by
  refine CtrN.intro (L0 := #[.val (.ref a1), .val (.ref a2), .val .null, .unset, .unset]) (plainFor_of_name pn4) O0 (own_entry rfl) ?_
  intro p e s m below meth c T0 hy hml hret hlk hnm W0
  refine o_aloadN W0 (pc' := 1) (hb hy d24_0) rfl rfl rfl ?_
  refine o_initO W0 (w11 hw) (w12 hw) (w13 hw) (by rw [hml]; rfl) (pc' := 4) (hb hy d24_1) rfl (by decide) 0 (by exact Nat.le_of_eq rfl) (by decide) ?_
  intro T1 W1
  refine o_aloadN W1 (pc' := 5) (hb hy d24_4) rfl rfl rfl ?_
  refine o_virtual W1 (y := (⟨"java/lang/AbstractStringBuilder", "getValue", "()[B"⟩ : MethodName)) (z := (⟨"java/lang/AbstractStringBuilder", "getValue", "()[B"⟩ : MethodName)) (w139 hw) (w140 hw) (o_nf W1 rfl (w142 hw)) (w142 hw) (w141 hw) (by decide) E_a2 (argsL := []) (CtrN.back (Wd := 0) W1 (rm21 l Z a0 hw a2 a3 h0 W1.old F_a2_value) (w143 hw) (w71 hw) (by decide) (by decide)) (by rw [hml]; rfl) (lenOf pd13 rfl) (S := []) rfl (by exact Nat.le_of_eq rfl) (pc' := 8) (hb hy d24_5) rfl (cells' := 0) (slots' := 0) rfl rfl (by decide) (by decide) (wy := []) (fun _ _ _ q => ⟨q.1, q.2.1⟩) all0 (fun _ _ => trivial) ?_
  intro v2 T2 h2 lo2 W2 K2 q2
  obtain rfl := q2.2.2
  show Gl _ _ _ _ _ _ _ _ [(.ref a3)]
  refine o_astoreN W2 (L' := #[.val (.ref a1), .val (.ref a2), .val .null, .val (.ref a3), .unset]) (pc' := 9) (hb hy d24_8) rfl rfl rfl ?_
  refine o_aloadN W2 (pc' := 10) (hb hy d24_9) rfl rfl rfl ?_
  have c3 := (F_a2_count.keep K2 nin0)
  have c4 := (E_a2.keep K2)
  refine o_virtual W2 (y := (⟨"java/lang/AbstractStringBuilder", "length", "()I"⟩ : MethodName)) (z := (⟨"java/lang/StringBuilder", "length", "()I"⟩ : MethodName)) (w144 hw) (w145 hw) (o_nf2 W2 (y2 := (⟨"java/lang/AbstractStringBuilder", "ensureCapacityInternal", "(I)V"⟩ : MethodName)) rfl (w103 hw) (w105 hw)) (w147 hw) (w148 hw) (by decide) c4 (argsL := []) (CtrN.back (Wd := 0) W2 (rm60 l Z a0 hw a2 h2 W2.old c3 c4) (w149 hw) (w63 hw) (by decide) (by decide)) (by rw [hml]; rfl) (lenOf pd8 rfl) (S := []) rfl (by exact Nat.le_of_eq rfl) (pc' := 13) (hb hy d24_10) rfl (cells' := 0) (slots' := 0) rfl rfl (by decide) (by decide) (wy := []) (fun _ _ _ q => ⟨q.1, q.2.1⟩) all0 (fun _ _ => trivial) ?_
  intro v5 T5 h5 lo5 W5 K5 q5
  obtain rfl := q5.2.2
  show Gl _ _ _ _ _ _ _ _ [(.int 10)]
  refine o_istore W5 (L' := #[.val (.ref a1), .val (.ref a2), .val .null, .val (.ref a3), .val (.int 10)]) (pc' := 15) (hb hy d24_13) rfl rfl ?_
  refine o_aloadN W5 (pc' := 16) (hb hy d24_15) rfl rfl rfl ?_
  have c6 := ((F_a2_coder.keep K2 nin0).keep K5 nin0)
  have c7 := (c4.keep K5)
  refine o_virtual W5 (y := (⟨"java/lang/AbstractStringBuilder", "isLatin1", "()Z"⟩ : MethodName)) (z := (⟨"java/lang/AbstractStringBuilder", "isLatin1", "()Z"⟩ : MethodName)) (w152 hw) (w153 hw) (o_nf W5 rfl (w155 hw)) (w155 hw) (w154 hw) (by decide) c7 (argsL := []) (CtrN.back (Wd := 0) W5 (rm24 l Z a0 hw gCS a2 h5 W5.old SgCS NgCS c6) (w156 hw) (w71 hw) (by decide) (by decide)) (by rw [hml]; rfl) (lenOf pd4 rfl) (S := []) rfl (by exact Nat.le_of_eq rfl) (pc' := 19) (hb hy d24_16) rfl (cells' := 0) (slots' := 0) rfl rfl (by decide) (by decide) (wy := []) (fun _ _ _ q => ⟨q.1, q.2.1⟩) all0 (fun _ _ => trivial) ?_
  intro v8 T8 h8 lo8 W8 K8 q8
  obtain rfl := q8.2.2
  show Gl _ _ _ _ _ _ _ _ [(.int 1)]
  refine o_ifN W8 (pc' := 22) (hb hy d24_19) (XT.i0_eq_f (by decide)) rfl ?_
  refine o_aloadN W8 (pc' := 23) (hb hy d24_22) rfl rfl rfl ?_
  refine o_iconst W8 (v := 0) (pc' := 24) (hb hy d24_23) rfl rfl ?_
  have c9 := (((E_a1.keep K2).keep K5).keep K8)
  have c10 := (((F_a1_coder.keep K2 nin0).keep K5 nin0).keep K8 nin0)
  refine o_putF W8 (w21 hw) Via.refl c10 c9 (Or.inr ⟨(w17 hw), rfl, hnm⟩) (w2 hw) (ty := .byte) (v' := (.int 0)) (by decide) rfl (by decide) g_a1 (Or.inl (List.mem_of_getElem? (i := 0) rfl)) (fun _ _ => trivial) (pc' := 27) (hb hy d24_24) rfl ?_
  intro T11 h11 lo11 W11 R11
  have F11 := c10.same R11
  refine o_aloadN W11 (pc' := 28) (hb hy d24_27) rfl rfl rfl ?_
  refine o_aloadN W11 (pc' := 29) (hb hy d24_28) rfl rfl rfl ?_
  refine o_iconst W11 (v := 0) (pc' := 30) (hb hy d24_29) rfl rfl ?_
  refine o_iload W11 (pc' := 32) (hb hy d24_30) rfl rfl ?_
  have c12 := (c9.wr R11)
  have c13 := (((V_a3.keep K2 nin0).keep K5 nin0).keep K8 nin0)
  have c14 := ((((V_a3.keep K2 nin0).keep K5 nin0).keep K8 nin0).other R11 (Ne.symm (Exa.neArv c9 c13 (w2 hw))))
  refine o_static W11 (y := (⟨"java/util/Arrays", "copyOfRange", "([BII)[B"⟩ : MethodName)) (w157 hw) (w158 hw) (w159 hw) (w160 hw) (by decide) (argsL := [(.ref a3), (.int 0), (.int 10)]) (CtrN.back (Wd := 1) W11 (rm64 l Z a0 hw a3 k_a3 x1 x2 x3 x4 x5 x6 x7 x8 x9 h11 W11.old c14) (w160 hw) (w159 hw) (by decide) (by decide)) (by rw [hml]; rfl) (lenOf pd16 rfl) (S := [(.ref a1)]) rfl (by exact Nat.le_of_eq rfl) (pc' := 35) (hb hy d24_32) rfl (cells' := 1) (slots' := 10) rfl rfl (by decide) (by decide) (wy := []) (fun _ _ _ q => ⟨q.1, q.2.1⟩) all0 (fun _ _ => trivial) ?_
  intro v15 T15 h15 lo15 W15 K15 q15
  obtain ⟨r1_15, r2_15, P15_0, P15_1, rfl⟩ := q15.2.2
  show Gl _ _ _ _ _ _ _ _ [(.ref r1_15), (.ref a1)]
  have c16 := (c12.keep K15)
  have c17 := (((((F_a1_value.keep K2 nin0).keep K5 nin0).keep K8 nin0).other R11 (Or.inr (slot_ne (Or.inr (w16 hw)) (Or.inr (w17 hw)) (by decide) (t := (.array .byte)) (t' := .byte) (by decide) (by decide)))).keep K15 nin0)
  refine o_putF W15 (w20 hw) Via.refl c17 c16 (Or.inr ⟨(w16 hw), rfl, hnm⟩) (w2 hw) (ty := (.array .byte)) (v' := (.ref r1_15)) (by decide) rfl rfl g_a1 (Or.inl (List.mem_of_getElem? (i := 0) rfl)) (fun _ _ => trivial) (pc' := 38) (hb hy d24_35) rfl ?_
  intro T18 h18 lo18 W18 R18
  have F18 := c17.same R18
  refine o_goto W18 (pc' := 97) (hb hy d24_38) (by decide) rfl ?_
  have c19 := ((F11.keep K15 nin0).other R18 (Or.inr (slot_ne (Or.inr (w17 hw)) (Or.inr (w16 hw)) (by decide) (t := .byte) (t' := (.array .byte)) (by decide) (by decide))))
  have c20 := (c16.wr R18)
  have c21 := (P15_1.other R18 (own_ne' c12.lt P15_0))
  exact o_ret0 W18 hlk hret (hb hy d24_97) (by decide) (by decide) ⟨r1_15, r2_15, (Nat.le_trans W11.keep.1 P15_0), c19, F18, c21, rfl⟩
theorem rm66 (l : Launch) (Z : State) (a0 : Array Value) (hw : ∀ d ∈ tables_1, d.before a0 Z = true) (gCS : Int32) (a1 a2 a3 : Addr) (k_a3 : ClassId) (x1 x2 x3 x4 x5 x6 x7 x8 x9 : Int32) (h0 : Heap) (O0 : Old Z Z.heap.size h0) (E_a2 : Exa Z h0 a2 "java/lang/StringBuilder") (F_a2_value : Fld Z h0 a2 "java/lang/AbstractStringBuilder" "value" "[B" (.ref a3)) (F_a2_count : Fld Z h0 a2 "java/lang/AbstractStringBuilder" "count" "I" (.int 10)) (SgCS : Sta Z Z.heap "java/lang/String" "COMPACT_STRINGS" "Z" (.int gCS)) (NgCS : ¬ (gCS = (0 : Int32))) (F_a2_coder : Fld Z h0 a2 "java/lang/AbstractStringBuilder" "coder" "B" (.int 0)) (E_a1 : Exa Z h0 a1 "java/lang/String") (F_a1_coder : Fld Z h0 a1 "java/lang/String" "coder" "B" (.int 0)) (V_a3 : Arv Z h0 a3 k_a3 .byte (16 : Int32) [(.int x1), (.int x2), (.int x3), (.int x4), (.int x5), (.int x1), (.int x6), (.int x7), (.int x8), (.int x9), (.int 0), (.int 0), (.int 0), (.int 0), (.int 0), (.int 0)] (.int 0)) (F_a1_value : Fld Z h0 a1 "java/lang/String" "value" "[B" .null) (g_a1 : Z.heap.size ≤ a1) :
    CtrN l Z (⟨"java/lang/String", "<init>", "(Ljava/lang/StringBuilder;)V"⟩ : MethodName) jdk_42_method_53_code 2 none [] (⟨4, 1, 10, 74⟩ : Room) #[(.ref a1), (.ref a2)] h0 [a1] (fun v h => ∃ r1 : Addr, ∃ r2 : ClassId, h0.size ≤ r1 ∧ Fld Z h a1 "java/lang/String" "coder" "B" (.int 0) ∧ Fld Z h a1 "java/lang/String" "value" "[B" (.ref r1) ∧ Arv Z h r1 r2 .byte (10 : Int32) [(.int x1), (.int x2), (.int x3), (.int x4), (.int x5), (.int x1), (.int x6), (.int x7), (.int x8), (.int x9)] (.int 0) ∧ v = none) := by
  refine CtrN.intro (L0 := #[.val (.ref a1), .val (.ref a2)]) (plainFor_of_name pn4) O0 (own_entry rfl) ?_
  intro p e s m below meth c T0 hy hml hret hlk hnm W0
  refine o_aloadN W0 (pc' := 1) (hb hy d23_0) rfl rfl rfl ?_
  refine o_aloadN W0 (pc' := 2) (hb hy d23_1) rfl rfl rfl ?_
  refine o_aconstNull W0 (pc' := 3) (hb hy d23_2) rfl ?_
  refine o_special W0 (y := (⟨"java/lang/String", "<init>", "(Ljava/lang/AbstractStringBuilder;Ljava/lang/Void;)V"⟩ : MethodName)) rfl (w136 hw) (w137 hw) (w138 hw) (by decide) (a := a1) (argsL := [(.ref a2), .null]) (CtrN.back (Wd := 0) W0 (rm65 l Z a0 hw gCS a1 a2 a3 k_a3 x1 x2 x3 x4 x5 x6 x7 x8 x9 h0 W0.old E_a2 F_a2_value F_a2_count SgCS NgCS F_a2_coder E_a1 F_a1_coder g_a1 V_a3 F_a1_value) (w138 hw) (w3 hw) (by decide) (by decide)) (by rw [hml]; rfl) (lenOf pd17 rfl) (S := []) rfl (by exact Nat.le_of_eq rfl) (pc' := 6) (hb hy d23_3) rfl (cells' := 1) (slots' := 10) rfl rfl (by decide) (by decide) (wy := [a1]) (fun _ _ _ q => ⟨q.1, q.2.1⟩) (allS ⟨g_a1, (Or.inl (List.mem_of_getElem? (i := 0) rfl))⟩ all0) (fun _ _ => trivial) ?_
  intro v1 T1 h1 lo1 W1 K1 q1
  obtain ⟨r1_1, r2_1, P1_0, P1_1, P1_2, P1_3, rfl⟩ := q1.2.2
  show Gl _ _ _ _ _ _ _ _ []
  have c2 := (E_a1.keep K1)
  exact o_ret0 W1 hlk hret (hb hy d23_6) (by decide) (by decide) ⟨r1_1, r2_1, (Nat.le_trans W0.keep.1 P1_0), P1_1, P1_2, P1_3, rfl⟩
theorem rm67 (l : Launch) (Z : State) (a0 : Array Value) (hw : ∀ d ∈ tables_1, d.before a0 Z = true) (gCS : Int32) (a1 a2 : Addr) (k_a2 : ClassId) (x1 x2 x3 x4 x5 x6 x7 x8 x9 : Int32) (h0 : Heap) (O0 : Old Z Z.heap.size h0) (E_a1 : Exa Z h0 a1 "java/lang/StringBuilder") (F_a1_value : Fld Z h0 a1 "java/lang/AbstractStringBuilder" "value" "[B" (.ref a2)) (F_a1_count : Fld Z h0 a1 "java/lang/AbstractStringBuilder" "count" "I" (.int 10)) (SgCS : Sta Z Z.heap "java/lang/String" "COMPACT_STRINGS" "Z" (.int gCS)) (NgCS : ¬ (gCS = (0 : Int32))) (F_a1_coder : Fld Z h0 a1 "java/lang/AbstractStringBuilder" "coder" "B" (.int 0)) (V_a2 : Arv Z h0 a2 k_a2 .byte (16 : Int32) [(.int x1), (.int x2), (.int x3), (.int x4), (.int x5), (.int x1), (.int x6), (.int x7), (.int x8), (.int x9), (.int 0), (.int 0), (.int 0), (.int 0), (.int 0), (.int 0)] (.int 0)) :
    CtrN l Z (⟨"java/lang/StringBuilder", "toString", "()Ljava/lang/String;"⟩ : MethodName) jdk_67_method_42_code 1 (some (.object "java/lang/String")) [] (⟨5, 2, 14, 88⟩ : Room) #[(.ref a1)] h0 [] (fun v h => ∃ r1 : Addr, ∃ r2 : Addr, ∃ r3 : ClassId, h0.size ≤ r1 ∧ h0.size ≤ r2 ∧ Exa Z h r1 "java/lang/String" ∧ Fld Z h r1 "java/lang/String" "value" "[B" (.ref r2) ∧ Fld Z h r1 "java/lang/String" "coder" "B" (.int 0) ∧ Arv Z h r2 r3 .byte (10 : Int32) [(.int x1), (.int x2), (.int x3), (.int x4), (.int x5), (.int x1), (.int x6), (.int x7), (.int x8), (.int x9)] (.int 0) ∧ v = some (.ref r1)) := by
  refine CtrN.intro (L0 := #[.val (.ref a1)]) (plainFor_of_name pn3) O0 (own_entry rfl) ?_
  intro p e s m below meth c T0 hy hml hret hlk hnm W0
  refine o_new W0 (w132 hw) (w2 hw) (w3 hw) (fun _ _ => trivial) (pc' := 3) (hb hy d22_0) rfl (cells' := 1) (slots' := 4) rfl rfl (by decide) (by decide) ?_
  intro b1 T1 h1 W1 E1 ge1 gz1 gb1 A1 D1
  have Fb1_value : Fld Z h1 b1 "java/lang/String" "value" "[B" .null := D1 (Or.inr (w16 hw)) (ty := (.array .byte)) (by decide)
  have Fb1_coder : Fld Z h1 b1 "java/lang/String" "coder" "B" (.int 0) := D1 (Or.inr (w17 hw)) (ty := .byte) (by decide)
  refine o_dup W1 (pc' := 4) (hb hy d22_3) rfl rfl ?_
  refine o_aloadN W1 (pc' := 5) (hb hy d22_4) rfl rfl rfl ?_
  have c2 := (E_a1.ext E1)
  have c3 := (F_a1_value.ext E1)
  have c4 := (F_a1_count.ext E1)
  have c5 := (F_a1_coder.ext E1)
  have c6 := (V_a2.ext E1)
  refine o_special W1 (y := (⟨"java/lang/String", "<init>", "(Ljava/lang/StringBuilder;)V"⟩ : MethodName)) rfl (w133 hw) (w134 hw) (w135 hw) (by decide) (a := b1) (argsL := [(.ref a1)]) (CtrN.back (Wd := 1) W1 (rm66 l Z a0 hw gCS b1 a1 a2 k_a2 x1 x2 x3 x4 x5 x6 x7 x8 x9 h1 W1.old c2 c3 c4 SgCS NgCS c5 A1 Fb1_coder c6 Fb1_value gz1) (w135 hw) (w3 hw) (by decide) (by decide)) (by rw [hml]; rfl) (lenOf pd18 rfl) (S := [(.ref b1)]) rfl (by exact Nat.le_of_eq rfl) (pc' := 8) (hb hy d22_5) rfl (cells' := 2) (slots' := 14) rfl rfl (by decide) (by decide) (wy := [b1]) (fun _ _ _ q => ⟨q.1, q.2.1⟩) (allS ⟨gz1, (Or.inr gb1)⟩ all0) (fun _ _ => trivial) ?_
  intro v7 T7 h7 lo7 W7 K7 q7
  obtain ⟨r1_7, r2_7, P7_0, P7_1, P7_2, P7_3, rfl⟩ := q7.2.2
  show Gl _ _ _ _ _ _ _ _ [(.ref b1)]
  have c8 := (A1.keep K7)
  exact o_retA W7 hlk (v := (.ref b1)) hret rfl rfl (hb hy d22_8) (by decide) (by decide) ⟨b1, r1_7, r2_7, gb1, (Nat.le_trans W1.keep.1 P7_0), c8, P7_2, P7_1, P7_3, rfl⟩
theorem rm68 (l : Launch) (Z : State) (a0 : Array Value) (hw : ∀ d ∈ tables_1, d.before a0 Z = true) (gCS : Int32) (a1 a2 a3 : Addr) (k_a3 : ClassId) (x1 : Int32) (h0 : Heap) (O0 : Old Z Z.heap.size h0) (F_a1_reason : Fld Z h0 a1 "com/example/countersign/countersign/Verdict" "reason" "Ljava/lang/String;" (.ref a2)) (SgCS : Sta Z Z.heap "java/lang/String" "COMPACT_STRINGS" "Z" (.int gCS)) (NgCS : ¬ (gCS = (0 : Int32))) (E_a2 : Exa Z h0 a2 "java/lang/String") (F_a2_value : Fld Z h0 a2 "java/lang/String" "value" "[B" (.ref a3)) (V_a3 : Arv Z h0 a3 k_a3 .byte (1 : Int32) [(.int (StrChars.lo8 x1))] (.int 0)) (F_a2_coder : Fld Z h0 a2 "java/lang/String" "coder" "B" (.int 0)) :
    CtrW l Z consts_1 (⟨"com/example/countersign/countersign/Verdict", "toString", "()Ljava/lang/String;"⟩ : MethodName) prog_11_method_6_code 1 (some (.object "java/lang/String")) [] (⟨6, 6, 74, 100⟩ : Room) #[(.ref a1)] h0 [] (fun v h => ∃ r1 : Addr, ∃ r2 : Addr, ∃ r3 : ClassId, h0.size ≤ r1 ∧ h0.size ≤ r2 ∧ Exa Z h r1 "java/lang/String" ∧ Fld Z h r1 "java/lang/String" "value" "[B" (.ref r2) ∧ Fld Z h r1 "java/lang/String" "coder" "B" (.int 0) ∧ Arv Z h r2 r3 .byte (10 : Int32) [(.int (StrChars.lo8 (105 : Int32))), (.int (StrChars.lo8 (110 : Int32))), (.int (StrChars.lo8 (118 : Int32))), (.int (StrChars.lo8 (97 : Int32))), (.int (StrChars.lo8 (108 : Int32))), (.int (StrChars.lo8 (105 : Int32))), (.int (StrChars.lo8 (100 : Int32))), (.int (StrChars.lo8 (58 : Int32))), (.int (StrChars.lo8 (32 : Int32))), (.int (StrChars.lo8 x1))] (.int 0) ∧ v = some (.ref r1)) := by
  refine CtrW.intro (L0 := #[.val (.ref a1)]) (plainFor_of_name pn1) O0 (own_entry rfl) ?_
  intro p e s m below meth c T0 V0 hy hml hret hlk hnm W0
  refine o_aloadN W0 (pc' := 1) (hb hy d11_0) rfl rfl rfl ?_
  refine o_getF W0 (w49 hw) Via.refl F_a1_reason (pc' := 4) (hb hy d11_1) rfl ?_
  intro T1 W1
  refine o_ifnonnullY W1 (pc' := 12) (hb hy d11_4) (by decide) rfl ?_
  refine o_new W1 (w61 hw) (w62 hw) (w63 hw) (fun _ E => IW.ext E W1.inv) (pc' := 15) (hb hy d11_12) rfl (cells' := 1) (slots' := 4) rfl rfl (by decide) (by decide) ?_
  intro b2 T2 h2 W2 E2 ge2 gz2 gb2 A2 D2
  have Fb2_value : Fld Z h2 b2 "java/lang/AbstractStringBuilder" "value" "[B" .null := D2 (Or.inl (w76 hw)) (ty := (.array .byte)) (by decide)
  have Fb2_coder : Fld Z h2 b2 "java/lang/AbstractStringBuilder" "coder" "B" (.int 0) := D2 (Or.inl (w78 hw)) (ty := .byte) (by decide)
  have Fb2_count : Fld Z h2 b2 "java/lang/AbstractStringBuilder" "count" "I" (.int 0) := D2 (Or.inl (w101 hw)) (ty := .int) (by decide)
  refine o_dup W2 (pc' := 16) (hb hy d11_15) rfl rfl ?_
  refine o_special W2 (y := (⟨"java/lang/StringBuilder", "<init>", "()V"⟩ : MethodName)) rfl (w64 hw) (w65 hw) (w66 hw) (by decide) (a := b2) (argsL := []) (CtrN.back (Wd := 1) W2 (rm6 l Z a0 hw gCS b2 h2 W2.old SgCS NgCS A2 Fb2_value Fb2_coder Fb2_count gz2) (w66 hw) (w63 hw) (by decide) (by decide)) (by rw [hml]; rfl) (lenOf pd6 rfl) (S := [(.ref b2)]) rfl (by exact Nat.le_of_eq rfl) (pc' := 19) (hb hy d11_16) rfl (cells' := 2) (slots' := 20) rfl rfl (by decide) (by decide) (wy := [b2]) (fun _ _ _ q => ⟨q.1, q.2.1⟩) (allS ⟨gz2, (Or.inr gb2)⟩ all0) (fun _ K => IW.keep K (sfS (Safe.exa W2.al A2 (by decide) (by decide)) sf0) W2.inv) ?_
  intro v3 T3 h3 lo3 W3 K3 q3
  obtain ⟨r1_3, r2_3, P3_0, P3_1, P3_2, P3_3, P3_4, rfl⟩ := q3.2.2
  show Gl _ _ _ _ _ _ _ _ [(.ref b2)]
  refine o_ldcR W3 (w79 hw) (own_wS hw) (own_EL hw) (by simp [consts_1]) (pc' := 21) (hb hy d11_19) rfl (n := 36) (by decide) (by decide) (cells' := 4) (slots' := 60) rfl rfl (by decide) (by decide) (vs := [(.int (StrChars.lo8 (105 : Int32))), (.int (StrChars.lo8 (110 : Int32))), (.int (StrChars.lo8 (118 : Int32))), (.int (StrChars.lo8 (97 : Int32))), (.int (StrChars.lo8 (108 : Int32))), (.int (StrChars.lo8 (105 : Int32))), (.int (StrChars.lo8 (100 : Int32))), (.int (StrChars.lo8 (58 : Int32))), (.int (StrChars.lo8 (32 : Int32)))]) (z := (9 : Int32)) ⟨by decide, by decide⟩ (by decide) (by decide) ?_
  intro s4 T4 h4 V4 t4 k4 W4 E4 C4 X4 Fc4 Fv4 A4 ns4
  have c5 := (P3_3.ext E4)
  have c6 := (P3_1.ext E4)
  have c7 := (P3_4.ext E4)
  have c8 := (P3_2.ext E4)
  have c9 := ((A2.keep K3).ext E4)
  refine o_virtual W4 (y := (⟨"java/lang/StringBuilder", "append", "(Ljava/lang/String;)Ljava/lang/StringBuilder;"⟩ : MethodName)) (z := (⟨"java/lang/StringBuilder", "append", "(Ljava/lang/String;)Ljava/lang/StringBuilder;"⟩ : MethodName)) (w80 hw) (w81 hw) (o_nf W4 rfl (w83 hw)) (w83 hw) (w82 hw) (by decide) c9 (argsL := [(.ref s4)]) (CtrN.back (Wd := 0) W4 (rm14 l Z a0 hw gCS b2 s4 t4 k4 r1_3 r2_3 h4 W4.old X4 Fv4 A4 SgCS NgCS Fc4 c5 c9 c6 c7 c8 (Nat.le_trans W2.zs P3_0) gz2) (w84 hw) (w63 hw) (by decide) (by decide)) (by rw [hml]; rfl) (lenOf pd12 rfl) (S := []) rfl (by exact Nat.le_of_eq rfl) (pc' := 24) (hb hy d11_21) rfl (cells' := 4) (slots' := 60) rfl rfl (by decide) (by decide) (wy := [b2, r1_3]) (fun _ _ _ q => ⟨q.1, q.2.1⟩) (allS ⟨gz2, (Or.inr gb2)⟩ (allS ⟨(Nat.le_trans W2.zs P3_0), (Or.inr (Nat.le_trans W2.keep.1 P3_0))⟩ all0)) (fun _ K => IW.keep K (sfS (Safe.exa W4.al c9 (by decide) (by decide)) (sfS (own_safeB W4.2.2.2.1 (n := 16) (by decide) (own_EL16 hw) c7) sf0)) W4.inv) ?_
  intro v10 T10 h10 lo10 W10 K10 q10
  obtain ⟨P10_0, P10_1, P10_2, P10_3, rfl⟩ := q10.2.2
  show Gl _ _ _ _ _ _ _ _ [(.ref b2)]
  refine o_aloadN W10 (pc' := 25) (hb hy d11_24) rfl rfl rfl ?_
  have c11 := (F_a1_reason.ext E2)
  have c12 := ((((F_a1_reason.ext E2).keep K3 (ninS (own_ne F_a1_reason.lt ge2) nin0)).ext E4).keep K10 (ninS (own_ne F_a1_reason.lt ge2) (ninS (own_ne c11.lt P3_0) nin0)))
  refine o_getF W10 (w49 hw) Via.refl c12 (pc' := 28) (hb hy d11_25) rfl ?_
  intro T13 W13
  have c14 := ((((E_a2.ext E2).keep K3).ext E4).keep K10)
  have c15 := (E_a2.ext E2)
  have c16 := ((((F_a2_value.ext E2).keep K3 (ninS (own_ne E_a2.lt ge2) nin0)).ext E4).keep K10 (ninS (own_ne E_a2.lt ge2) (ninS (own_ne c15.lt P3_0) nin0)))
  have c17 := (V_a3.ext E2)
  have c18 := ((((V_a3.ext E2).keep K3 (ninS (own_ne V_a3.lt ge2) nin0)).ext E4).keep K10 (ninS (own_ne V_a3.lt ge2) (ninS (own_ne c17.lt P3_0) nin0)))
  have c19 := ((((F_a2_coder.ext E2).keep K3 (ninS (own_ne E_a2.lt ge2) nin0)).ext E4).keep K10 (ninS (own_ne E_a2.lt ge2) (ninS (own_ne c15.lt P3_0) nin0)))
  have c20 := (c9.keep K10)
  refine o_virtual W13 (y := (⟨"java/lang/StringBuilder", "append", "(Ljava/lang/String;)Ljava/lang/StringBuilder;"⟩ : MethodName)) (z := (⟨"java/lang/StringBuilder", "append", "(Ljava/lang/String;)Ljava/lang/StringBuilder;"⟩ : MethodName)) (w80 hw) (w81 hw) (o_nf W13 rfl (w83 hw)) (w83 hw) (w82 hw) (by decide) c20 (argsL := [(.ref a2)]) (CtrN.back (Wd := 0) W13 (rm58 l Z a0 hw gCS b2 a2 a3 k_a3 x1 r1_3 r2_3 (StrChars.lo8 (105 : Int32)) (StrChars.lo8 (110 : Int32)) (StrChars.lo8 (118 : Int32)) (StrChars.lo8 (97 : Int32)) (StrChars.lo8 (108 : Int32)) (StrChars.lo8 (100 : Int32)) (StrChars.lo8 (58 : Int32)) (StrChars.lo8 (32 : Int32)) h10 W13.old c14 c16 c18 SgCS NgCS c19 P10_0 c20 P10_1 P10_2 P10_3 (Nat.le_trans W2.zs P3_0) gz2) (w84 hw) (w63 hw) (by decide) (by decide)) (by rw [hml]; rfl) (lenOf pd12 rfl) (S := []) rfl (by exact Nat.le_of_eq rfl) (pc' := 31) (hb hy d11_28) rfl (cells' := 4) (slots' := 60) rfl rfl (by decide) (by decide) (wy := [b2, r1_3]) (fun _ _ _ q => ⟨q.1, q.2.1⟩) (allS ⟨gz2, (Or.inr gb2)⟩ (allS ⟨(Nat.le_trans W2.zs P3_0), (Or.inr (Nat.le_trans W2.keep.1 P3_0))⟩ all0)) (fun _ K => IW.keep K (sfS (Safe.exa W13.al c20 (by decide) (by decide)) (sfS (own_safeB W13.2.2.2.1 (n := 16) (by decide) (own_EL16 hw) P10_2) sf0)) W13.inv) ?_
  intro v21 T21 h21 lo21 W21 K21 q21
  obtain ⟨P21_0, P21_1, P21_2, P21_3, rfl⟩ := q21.2.2
  show Gl _ _ _ _ _ _ _ _ [(.ref b2)]
  have c22 := (c20.keep K21)
  refine o_virtual W21 (y := (⟨"java/lang/StringBuilder", "toString", "()Ljava/lang/String;"⟩ : MethodName)) (z := (⟨"java/lang/StringBuilder", "toString", "()Ljava/lang/String;"⟩ : MethodName)) (w127 hw) (w128 hw) (o_nf W21 rfl (w130 hw)) (w130 hw) (w129 hw) (by decide) c22 (argsL := []) (CtrN.back (Wd := 0) W21 (rm67 l Z a0 hw gCS b2 r1_3 r2_3 (StrChars.lo8 (105 : Int32)) (StrChars.lo8 (110 : Int32)) (StrChars.lo8 (118 : Int32)) (StrChars.lo8 (97 : Int32)) (StrChars.lo8 (108 : Int32)) (StrChars.lo8 (100 : Int32)) (StrChars.lo8 (58 : Int32)) (StrChars.lo8 (32 : Int32)) (StrChars.lo8 x1) h21 W21.old c22 P21_1 P21_0 SgCS NgCS P21_3 P21_2) (w131 hw) (w63 hw) (by decide) (by decide)) (by rw [hml]; rfl) (lenOf pd19 rfl) (S := []) rfl (by exact Nat.le_of_eq rfl) (pc' := 34) (hb hy d11_31) rfl (cells' := 6) (slots' := 74) rfl rfl (by decide) (by decide) (wy := []) (fun _ _ _ q => ⟨q.1, q.2.1⟩) all0 (fun _ K => IW.keep K sf0 W21.inv) ?_
  intro v23 T23 h23 lo23 W23 K23 q23
  obtain ⟨r1_23, r2_23, r3_23, P23_0, P23_1, P23_2, P23_3, P23_4, P23_5, rfl⟩ := q23.2.2
  show Gl _ _ _ _ _ _ _ _ [(.ref r1_23)]
  exact o_retAW W23 (own_EL hw) hlk (v := (.ref r1_23)) hret rfl rfl (hb hy d11_34) (by decide) (by decide) ⟨r1_23, r2_23, r3_23, (Nat.le_trans W21.keep.1 P23_0), (Nat.le_trans W21.keep.1 P23_1), P23_2, P23_3, P23_4, P23_5, rfl⟩
theorem rm69 (l : Launch) (Z : State) (a0 : Array Value) (hw : ∀ d ∈ tables_1, d.before a0 Z = true) (a1 a2 : Addr) (k_a1 : ClassId) (x1 x2 x3 x4 x5 x6 x7 x8 x9 : Int32) (k_a2 : ClassId) (x10 : Int32) (h0 : Heap) (O0 : Old Z Z.heap.size h0) (V_a1 : Arv Z h0 a1 k_a1 .byte (10 : Int32) [(.int x1), (.int x2), (.int x3), (.int x4), (.int x5), (.int x1), (.int x6), (.int x7), (.int x8), (.int x9)] (.int 0)) (V_a2 : Arv Z h0 a2 k_a2 .byte (10 : Int32) [(.int (StrChars.lo8 (105 : Int32))), (.int (StrChars.lo8 (110 : Int32))), (.int (StrChars.lo8 (118 : Int32))), (.int (StrChars.lo8 (97 : Int32))), (.int (StrChars.lo8 (108 : Int32))), (.int (StrChars.lo8 (105 : Int32))), (.int (StrChars.lo8 (100 : Int32))), (.int (StrChars.lo8 (58 : Int32))), (.int (StrChars.lo8 (32 : Int32))), (.int (StrChars.lo8 x10))] (.int 0)) (hc1 : x1 = (StrChars.lo8 (105 : Int32))) (hc2 : x2 = (StrChars.lo8 (110 : Int32))) (hc3 : x3 = (StrChars.lo8 (118 : Int32))) (hc4 : x4 = (StrChars.lo8 (97 : Int32))) (hc5 : x5 = (StrChars.lo8 (108 : Int32))) (hc6 : x6 = (StrChars.lo8 (100 : Int32))) (hc7 : x7 = (StrChars.lo8 (58 : Int32))) (hc8 : x8 = (StrChars.lo8 (32 : Int32))) (hc9 : x9 = (StrChars.lo8 x10)) :
    CtrN l Z (⟨"java/lang/StringLatin1", "equals", "([B[B)Z"⟩ : MethodName) jdk_43_method_13_code 3 (some .boolean) [] (⟨0, 0, 0, 0⟩ : Room) #[(.ref a1), (.ref a2)] h0 [] (fun v h => v = some (.int 1)) := by
  refine CtrN.intro (L0 := #[.val (.ref a1), .val (.ref a2), .unset]) (plainFor_of_name pn6) O0 (own_entry rfl) ?_
  intro p e s m below meth c T0 hy hml hret hlk hnm W0
  refine o_aloadN W0 (pc' := 1) (hb hy d34_0) rfl rfl rfl ?_
  refine o_len W0 V_a1 (pc' := 2) (hb hy d34_1) rfl ?_
  refine o_aloadN W0 (pc' := 3) (hb hy d34_2) rfl rfl rfl ?_
  refine o_len W0 V_a2 (pc' := 4) (hb hy d34_3) rfl ?_
  refine o_icmpN W0 (pc' := 7) (hb hy d34_4) (XT.ii_ne_f (by decide)) rfl ?_
  refine o_iconst W0 (v := 0) (pc' := 8) (hb hy d34_7) rfl rfl ?_
  refine o_istoreN W0 (L' := #[.val (.ref a1), .val (.ref a2), .val (.int 0)]) (pc' := 9) (hb hy d34_8) rfl rfl ?_
  refine o_iloadN W0 (pc' := 10) (hb hy d34_9) rfl rfl ?_
  refine o_aloadN W0 (pc' := 11) (hb hy d34_10) rfl rfl rfl ?_
  refine o_len W0 V_a1 (pc' := 12) (hb hy d34_11) rfl ?_
  refine o_icmpN W0 (pc' := 15) (hb hy d34_12) (XT.ii_ge_f (by decide)) rfl ?_
  refine o_aloadN W0 (pc' := 16) (hb hy d34_15) rfl rfl rfl ?_
  refine o_iloadN W0 (pc' := 17) (hb hy d34_16) rfl rfl ?_
  refine o_baload W0 V_a1 (x := x1) (i := 0) (by decide) (by decide) (by decide) rfl (pc' := 18) (hb hy d34_17) rfl ?_
  refine o_aloadN W0 (pc' := 19) (hb hy d34_18) rfl rfl rfl ?_
  refine o_iloadN W0 (pc' := 20) (hb hy d34_19) rfl rfl ?_
  refine o_baload W0 V_a2 (x := (StrChars.lo8 (105 : Int32))) (i := 0) (by decide) (by decide) (by decide) rfl (pc' := 21) (hb hy d34_20) rfl ?_
  refine o_icmpY W0 (pc' := 26) (hb hy d34_21) (XT.ii_eq_t hc1) (by decide) rfl ?_
  refine o_iinc W0 (v := 1) (L' := #[.val (.ref a1), .val (.ref a2), .val (.int 1)]) (pc' := 29) (hb hy d34_26) rfl (by decide) rfl rfl ?_
  refine o_goto W0 (pc' := 9) (hb hy d34_29) (by decide) rfl ?_
  refine o_iloadN W0 (pc' := 10) (hb hy d34_9) rfl rfl ?_
  refine o_aloadN W0 (pc' := 11) (hb hy d34_10) rfl rfl rfl ?_
  refine o_len W0 V_a1 (pc' := 12) (hb hy d34_11) rfl ?_
  refine o_icmpN W0 (pc' := 15) (hb hy d34_12) (XT.ii_ge_f (by decide)) rfl ?_
  refine o_aloadN W0 (pc' := 16) (hb hy d34_15) rfl rfl rfl ?_
  refine o_iloadN W0 (pc' := 17) (hb hy d34_16) rfl rfl ?_
  refine o_baload W0 V_a1 (x := x2) (i := 1) (by decide) (by decide) (by decide) rfl (pc' := 18) (hb hy d34_17) rfl ?_
  refine o_aloadN W0 (pc' := 19) (hb hy d34_18) rfl rfl rfl ?_
  refine o_iloadN W0 (pc' := 20) (hb hy d34_19) rfl rfl ?_
  refine o_baload W0 V_a2 (x := (StrChars.lo8 (110 : Int32))) (i := 1) (by decide) (by decide) (by decide) rfl (pc' := 21) (hb hy d34_20) rfl ?_
  refine o_icmpY W0 (pc' := 26) (hb hy d34_21) (XT.ii_eq_t hc2) (by decide) rfl ?_
  refine o_iinc W0 (v := 2) (L' := #[.val (.ref a1), .val (.ref a2), .val (.int 2)]) (pc' := 29) (hb hy d34_26) rfl (by decide) rfl rfl ?_
  refine o_goto W0 (pc' := 9) (hb hy d34_29) (by decide) rfl ?_
  refine o_iloadN W0 (pc' := 10) (hb hy d34_9) rfl rfl ?_
  refine o_aloadN W0 (pc' := 11) (hb hy d34_10) rfl rfl rfl ?_
  refine o_len W0 V_a1 (pc' := 12) (hb hy d34_11) rfl ?_
  refine o_icmpN W0 (pc' := 15) (hb hy d34_12) (XT.ii_ge_f (by decide)) rfl ?_
  refine o_aloadN W0 (pc' := 16) (hb hy d34_15) rfl rfl rfl ?_
  refine o_iloadN W0 (pc' := 17) (hb hy d34_16) rfl rfl ?_
  refine o_baload W0 V_a1 (x := x3) (i := 2) (by decide) (by decide) (by decide) rfl (pc' := 18) (hb hy d34_17) rfl ?_
  refine o_aloadN W0 (pc' := 19) (hb hy d34_18) rfl rfl rfl ?_
  refine o_iloadN W0 (pc' := 20) (hb hy d34_19) rfl rfl ?_
  refine o_baload W0 V_a2 (x := (StrChars.lo8 (118 : Int32))) (i := 2) (by decide) (by decide) (by decide) rfl (pc' := 21) (hb hy d34_20) rfl ?_
  refine o_icmpY W0 (pc' := 26) (hb hy d34_21) (XT.ii_eq_t hc3) (by decide) rfl ?_
  refine o_iinc W0 (v := 3) (L' := #[.val (.ref a1), .val (.ref a2), .val (.int 3)]) (pc' := 29) (hb hy d34_26) rfl (by decide) rfl rfl ?_
  refine o_goto W0 (pc' := 9) (hb hy d34_29) (by decide) rfl ?_
  refine o_iloadN W0 (pc' := 10) (hb hy d34_9) rfl rfl ?_
  refine o_aloadN W0 (pc' := 11) (hb hy d34_10) rfl rfl rfl ?_
  refine o_len W0 V_a1 (pc' := 12) (hb hy d34_11) rfl ?_
  refine o_icmpN W0 (pc' := 15) (hb hy d34_12) (XT.ii_ge_f (by decide)) rfl ?_
  refine o_aloadN W0 (pc' := 16) (hb hy d34_15) rfl rfl rfl ?_
  refine o_iloadN W0 (pc' := 17) (hb hy d34_16) rfl rfl ?_
  refine o_baload W0 V_a1 (x := x4) (i := 3) (by decide) (by decide) (by decide) rfl (pc' := 18) (hb hy d34_17) rfl ?_
  refine o_aloadN W0 (pc' := 19) (hb hy d34_18) rfl rfl rfl ?_
  refine o_iloadN W0 (pc' := 20) (hb hy d34_19) rfl rfl ?_
  refine o_baload W0 V_a2 (x := (StrChars.lo8 (97 : Int32))) (i := 3) (by decide) (by decide) (by decide) rfl (pc' := 21) (hb hy d34_20) rfl ?_
  refine o_icmpY W0 (pc' := 26) (hb hy d34_21) (XT.ii_eq_t hc4) (by decide) rfl ?_
  refine o_iinc W0 (v := 4) (L' := #[.val (.ref a1), .val (.ref a2), .val (.int 4)]) (pc' := 29) (hb hy d34_26) rfl (by decide) rfl rfl ?_
  refine o_goto W0 (pc' := 9) (hb hy d34_29) (by decide) rfl ?_
  refine o_iloadN W0 (pc' := 10) (hb hy d34_9) rfl rfl ?_
  refine o_aloadN W0 (pc' := 11) (hb hy d34_10) rfl rfl rfl ?_
  refine o_len W0 V_a1 (pc' := 12) (hb hy d34_11) rfl ?_
  refine o_icmpN W0 (pc' := 15) (hb hy d34_12) (XT.ii_ge_f (by decide)) rfl ?_
  refine o_aloadN W0 (pc' := 16) (hb hy d34_15) rfl rfl rfl ?_
  refine o_iloadN W0 (pc' := 17) (hb hy d34_16) rfl rfl ?_
  refine o_baload W0 V_a1 (x := x5) (i := 4) (by decide) (by decide) (by decide) rfl (pc' := 18) (hb hy d34_17) rfl ?_
  refine o_aloadN W0 (pc' := 19) (hb hy d34_18) rfl rfl rfl ?_
  refine o_iloadN W0 (pc' := 20) (hb hy d34_19) rfl rfl ?_
  refine o_baload W0 V_a2 (x := (StrChars.lo8 (108 : Int32))) (i := 4) (by decide) (by decide) (by decide) rfl (pc' := 21) (hb hy d34_20) rfl ?_
  refine o_icmpY W0 (pc' := 26) (hb hy d34_21) (XT.ii_eq_t hc5) (by decide) rfl ?_
  refine o_iinc W0 (v := 5) (L' := #[.val (.ref a1), .val (.ref a2), .val (.int 5)]) (pc' := 29) (hb hy d34_26) rfl (by decide) rfl rfl ?_
  refine o_goto W0 (pc' := 9) (hb hy d34_29) (by decide) rfl ?_
  refine o_iloadN W0 (pc' := 10) (hb hy d34_9) rfl rfl ?_
  refine o_aloadN W0 (pc' := 11) (hb hy d34_10) rfl rfl rfl ?_
  refine o_len W0 V_a1 (pc' := 12) (hb hy d34_11) rfl ?_
  refine o_icmpN W0 (pc' := 15) (hb hy d34_12) (XT.ii_ge_f (by decide)) rfl ?_
  refine o_aloadN W0 (pc' := 16) (hb hy d34_15) rfl rfl rfl ?_
  refine o_iloadN W0 (pc' := 17) (hb hy d34_16) rfl rfl ?_
  refine o_baload W0 V_a1 (x := x1) (i := 5) (by decide) (by decide) (by decide) rfl (pc' := 18) (hb hy d34_17) rfl ?_
  refine o_aloadN W0 (pc' := 19) (hb hy d34_18) rfl rfl rfl ?_
  refine o_iloadN W0 (pc' := 20) (hb hy d34_19) rfl rfl ?_
  refine o_baload W0 V_a2 (x := (StrChars.lo8 (105 : Int32))) (i := 5) (by decide) (by decide) (by decide) rfl (pc' := 21) (hb hy d34_20) rfl ?_
  refine o_icmpY W0 (pc' := 26) (hb hy d34_21) (XT.ii_eq_t hc1) (by decide) rfl ?_
  refine o_iinc W0 (v := 6) (L' := #[.val (.ref a1), .val (.ref a2), .val (.int 6)]) (pc' := 29) (hb hy d34_26) rfl (by decide) rfl rfl ?_
  refine o_goto W0 (pc' := 9) (hb hy d34_29) (by decide) rfl ?_
  refine o_iloadN W0 (pc' := 10) (hb hy d34_9) rfl rfl ?_
  refine o_aloadN W0 (pc' := 11) (hb hy d34_10) rfl rfl rfl ?_
  refine o_len W0 V_a1 (pc' := 12) (hb hy d34_11) rfl ?_
  refine o_icmpN W0 (pc' := 15) (hb hy d34_12) (XT.ii_ge_f (by decide)) rfl ?_
  refine o_aloadN W0 (pc' := 16) (hb hy d34_15) rfl rfl rfl ?_
  refine o_iloadN W0 (pc' := 17) (hb hy d34_16) rfl rfl ?_
  refine o_baload W0 V_a1 (x := x6) (i := 6) (by decide) (by decide) (by decide) rfl (pc' := 18) (hb hy d34_17) rfl ?_
  refine o_aloadN W0 (pc' := 19) (hb hy d34_18) rfl rfl rfl ?_
  refine o_iloadN W0 (pc' := 20) (hb hy d34_19) rfl rfl ?_
  refine o_baload W0 V_a2 (x := (StrChars.lo8 (100 : Int32))) (i := 6) (by decide) (by decide) (by decide) rfl (pc' := 21) (hb hy d34_20) rfl ?_
  refine o_icmpY W0 (pc' := 26) (hb hy d34_21) (XT.ii_eq_t hc6) (by decide) rfl ?_
  refine o_iinc W0 (v := 7) (L' := #[.val (.ref a1), .val (.ref a2), .val (.int 7)]) (pc' := 29) (hb hy d34_26) rfl (by decide) rfl rfl ?_
  refine o_goto W0 (pc' := 9) (hb hy d34_29) (by decide) rfl ?_
  refine o_iloadN W0 (pc' := 10) (hb hy d34_9) rfl rfl ?_
  refine o_aloadN W0 (pc' := 11) (hb hy d34_10) rfl rfl rfl ?_
  refine o_len W0 V_a1 (pc' := 12) (hb hy d34_11) rfl ?_
  refine o_icmpN W0 (pc' := 15) (hb hy d34_12) (XT.ii_ge_f (by decide)) rfl ?_
  refine o_aloadN W0 (pc' := 16) (hb hy d34_15) rfl rfl rfl ?_
  refine o_iloadN W0 (pc' := 17) (hb hy d34_16) rfl rfl ?_
  refine o_baload W0 V_a1 (x := x7) (i := 7) (by decide) (by decide) (by decide) rfl (pc' := 18) (hb hy d34_17) rfl ?_
  refine o_aloadN W0 (pc' := 19) (hb hy d34_18) rfl rfl rfl ?_
  refine o_iloadN W0 (pc' := 20) (hb hy d34_19) rfl rfl ?_
  refine o_baload W0 V_a2 (x := (StrChars.lo8 (58 : Int32))) (i := 7) (by decide) (by decide) (by decide) rfl (pc' := 21) (hb hy d34_20) rfl ?_
  refine o_icmpY W0 (pc' := 26) (hb hy d34_21) (XT.ii_eq_t hc7) (by decide) rfl ?_
  refine o_iinc W0 (v := 8) (L' := #[.val (.ref a1), .val (.ref a2), .val (.int 8)]) (pc' := 29) (hb hy d34_26) rfl (by decide) rfl rfl ?_
  refine o_goto W0 (pc' := 9) (hb hy d34_29) (by decide) rfl ?_
  refine o_iloadN W0 (pc' := 10) (hb hy d34_9) rfl rfl ?_
  refine o_aloadN W0 (pc' := 11) (hb hy d34_10) rfl rfl rfl ?_
  refine o_len W0 V_a1 (pc' := 12) (hb hy d34_11) rfl ?_
  refine o_icmpN W0 (pc' := 15) (hb hy d34_12) (XT.ii_ge_f (by decide)) rfl ?_
  refine o_aloadN W0 (pc' := 16) (hb hy d34_15) rfl rfl rfl ?_
  refine o_iloadN W0 (pc' := 17) (hb hy d34_16) rfl rfl ?_
  refine o_baload W0 V_a1 (x := x8) (i := 8) (by decide) (by decide) (by decide) rfl (pc' := 18) (hb hy d34_17) rfl ?_
  refine o_aloadN W0 (pc' := 19) (hb hy d34_18) rfl rfl rfl ?_
  refine o_iloadN W0 (pc' := 20) (hb hy d34_19) rfl rfl ?_
  refine o_baload W0 V_a2 (x := (StrChars.lo8 (32 : Int32))) (i := 8) (by decide) (by decide) (by decide) rfl (pc' := 21) (hb hy d34_20) rfl ?_
  refine o_icmpY W0 (pc' := 26) (hb hy d34_21) (XT.ii_eq_t hc8) (by decide) rfl ?_
  refine o_iinc W0 (v := 9) (L' := #[.val (.ref a1), .val (.ref a2), .val (.int 9)]) (pc' := 29) (hb hy d34_26) rfl (by decide) rfl rfl ?_
  refine o_goto W0 (pc' := 9) (hb hy d34_29) (by decide) rfl ?_
  refine o_iloadN W0 (pc' := 10) (hb hy d34_9) rfl rfl ?_
  refine o_aloadN W0 (pc' := 11) (hb hy d34_10) rfl rfl rfl ?_
  refine o_len W0 V_a1 (pc' := 12) (hb hy d34_11) rfl ?_
  refine o_icmpN W0 (pc' := 15) (hb hy d34_12) (XT.ii_ge_f (by decide)) rfl ?_
  refine o_aloadN W0 (pc' := 16) (hb hy d34_15) rfl rfl rfl ?_
  refine o_iloadN W0 (pc' := 17) (hb hy d34_16) rfl rfl ?_
  refine o_baload W0 V_a1 (x := x9) (i := 9) (by decide) (by decide) (by decide) rfl (pc' := 18) (hb hy d34_17) rfl ?_
  refine o_aloadN W0 (pc' := 19) (hb hy d34_18) rfl rfl rfl ?_
  refine o_iloadN W0 (pc' := 20) (hb hy d34_19) rfl rfl ?_
  refine o_baload W0 V_a2 (x := (StrChars.lo8 x10)) (i := 9) (by decide) (by decide) (by decide) rfl (pc' := 21) (hb hy d34_20) rfl ?_
  refine o_icmpY W0 (pc' := 26) (hb hy d34_21) (XT.ii_eq_t hc9) (by decide) rfl ?_
  refine o_iinc W0 (v := 10) (L' := #[.val (.ref a1), .val (.ref a2), .val (.int 10)]) (pc' := 29) (hb hy d34_26) rfl (by decide) rfl rfl ?_
  refine o_goto W0 (pc' := 9) (hb hy d34_29) (by decide) rfl ?_
  refine o_iloadN W0 (pc' := 10) (hb hy d34_9) rfl rfl ?_
  refine o_aloadN W0 (pc' := 11) (hb hy d34_10) rfl rfl rfl ?_
  refine o_len W0 V_a1 (pc' := 12) (hb hy d34_11) rfl ?_
  refine o_icmpY W0 (pc' := 32) (hb hy d34_12) (XT.ii_ge_t (by decide)) (by decide) rfl ?_
  refine o_iconst W0 (v := 1) (pc' := 33) (hb hy d34_32) rfl rfl ?_
  exact o_retN W0 hlk (t := .boolean) hret (by simp) (z' := (1 : Int32)) (by decide) (hb hy d34_33) (by decide) (by decide) rfl
theorem rm70 (l : Launch) (Z : State) (a0 : Array Value) (hw : ∀ d ∈ tables_1, d.before a0 Z = true) (gCS : Int32) (a1 a2 a3 a4 : Addr) (k_a3 : ClassId) (x1 x2 x3 x4 x5 x6 x7 x8 x9 : Int32) (k_a4 : ClassId) (x10 : Int32) (h0 : Heap) (O0 : Old Z Z.heap.size h0) (E_a1 : Exa Z h0 a1 "java/lang/String") (E_a2 : Exa Z h0 a2 "java/lang/String") (ne_a1_a2 : a1 ≠ a2) (SgCS : Sta Z Z.heap "java/lang/String" "COMPACT_STRINGS" "Z" (.int gCS)) (NgCS : ¬ (gCS = (0 : Int32))) (F_a1_coder : Fld Z h0 a1 "java/lang/String" "coder" "B" (.int 0)) (F_a2_coder : Fld Z h0 a2 "java/lang/String" "coder" "B" (.int 0)) (F_a1_value : Fld Z h0 a1 "java/lang/String" "value" "[B" (.ref a3)) (F_a2_value : Fld Z h0 a2 "java/lang/String" "value" "[B" (.ref a4)) (V_a3 : Arv Z h0 a3 k_a3 .byte (10 : Int32) [(.int x1), (.int x2), (.int x3), (.int x4), (.int x5), (.int x1), (.int x6), (.int x7), (.int x8), (.int x9)] (.int 0)) (V_a4 : Arv Z h0 a4 k_a4 .byte (10 : Int32) [(.int (StrChars.lo8 (105 : Int32))), (.int (StrChars.lo8 (110 : Int32))), (.int (StrChars.lo8 (118 : Int32))), (.int (StrChars.lo8 (97 : Int32))), (.int (StrChars.lo8 (108 : Int32))), (.int (StrChars.lo8 (105 : Int32))), (.int (StrChars.lo8 (100 : Int32))), (.int (StrChars.lo8 (58 : Int32))), (.int (StrChars.lo8 (32 : Int32))), (.int (StrChars.lo8 x10))] (.int 0)) (hc8 : x1 = (StrChars.lo8 (105 : Int32))) (hc9 : x2 = (StrChars.lo8 (110 : Int32))) (hc10 : x3 = (StrChars.lo8 (118 : Int32))) (hc11 : x4 = (StrChars.lo8 (97 : Int32))) (hc12 : x5 = (StrChars.lo8 (108 : Int32))) (hc13 : x6 = (StrChars.lo8 (100 : Int32))) (hc14 : x7 = (StrChars.lo8 (58 : Int32))) (hc15 : x8 = (StrChars.lo8 (32 : Int32))) (hc16 : x9 = (StrChars.lo8 x10)) :
    CtrN l Z (⟨"java/lang/String", "equals", "(Ljava/lang/Object;)Z"⟩ : MethodName) jdk_42_method_66_code 3 (some .boolean) [] (⟨1, 0, 0, 14⟩ : Room) #[(.ref a1), (.ref a2)] h0 [] (fun v h => v = some (.int 1)) := by
  refine CtrN.intro (L0 := #[.val (.ref a1), .val (.ref a2), .unset]) (plainFor_of_name pn4) O0 (own_entry rfl) ?_
  intro p e s m below meth c T0 hy hml hret hlk hnm W0
  refine o_aloadN W0 (pc' := 1) (hb hy d33_0) rfl rfl rfl ?_
  refine o_aloadN W0 (pc' := 2) (hb hy d33_1) rfl rfl rfl ?_
  refine o_acmpY W0 (pc' := 7) (hb hy d33_2) rfl rfl (XT.aa_ne_t (fun q => ne_a1_a2 (Value.ref.inj q))) (by decide) rfl ?_
  refine o_aloadN W0 (pc' := 8) (hb hy d33_7) rfl rfl rfl ?_
  refine o_instY W0 (w177 hw) (Ins.self E_a2) (pc' := 11) (hb hy d33_8) rfl ?_
  intro T1 W1
  refine o_ifN W1 (pc' := 14) (hb hy d33_11) (XT.i0_eq_f (by decide)) rfl ?_
  refine o_aloadN W1 (pc' := 15) (hb hy d33_14) rfl rfl rfl ?_
  refine o_cast W1 (w177 hw) (Ins.self E_a2) (pc' := 18) (hb hy d33_15) rfl ?_
  intro T2 W2
  refine o_astoreN W2 (L' := #[.val (.ref a1), .val (.ref a2), .val (.ref a2)]) (pc' := 19) (hb hy d33_18) rfl rfl rfl ?_
  refine o_getS W2 (w22 hw) Via.refl (SgCS.ext W2.ox) (pc' := 22) (hb hy d33_19) rfl ?_
  intro T3 W3
  refine o_ifN W3 (pc' := 25) (hb hy d33_22) (XT.i0_eq_f NgCS) rfl ?_
  refine o_aloadN W3 (pc' := 26) (hb hy d33_25) rfl rfl rfl ?_
  refine o_getF W3 (w21 hw) Via.refl F_a1_coder (pc' := 29) (hb hy d33_26) rfl ?_
  intro T4 W4
  refine o_aloadN W4 (pc' := 30) (hb hy d33_29) rfl rfl rfl ?_
  refine o_getF W4 (w21 hw) Via.refl F_a2_coder (pc' := 33) (hb hy d33_30) rfl ?_
  intro T5 W5
  refine o_icmpN W5 (pc' := 36) (hb hy d33_33) (XT.ii_ne_f (by decide)) rfl ?_
  refine o_aloadN W5 (pc' := 37) (hb hy d33_36) rfl rfl rfl ?_
  refine o_getF W5 (w20 hw) Via.refl F_a1_value (pc' := 40) (hb hy d33_37) rfl ?_
  intro T6 W6
  refine o_aloadN W6 (pc' := 41) (hb hy d33_40) rfl rfl rfl ?_
  refine o_getF W6 (w20 hw) Via.refl F_a2_value (pc' := 44) (hb hy d33_41) rfl ?_
  intro T7 W7
  refine o_static W7 (y := (⟨"java/lang/StringLatin1", "equals", "([B[B)Z"⟩ : MethodName)) (w178 hw) (w179 hw) (w180 hw) (w181 hw) (by decide) (argsL := [(.ref a3), (.ref a4)]) (CtrN.back (Wd := 0) W7 (rm69 l Z a0 hw a3 a4 k_a3 x1 x2 x3 x4 x5 x6 x7 x8 x9 k_a4 x10 h0 W7.old V_a3 V_a4 hc8 hc9 hc10 hc11 hc12 hc13 hc14 hc15 hc16) (w181 hw) (w180 hw) (by decide) (by decide)) (by rw [hml]; rfl) (lenOf pd20 rfl) (S := []) rfl (by exact Nat.le_of_eq rfl) (pc' := 47) (hb hy d33_44) rfl (cells' := 0) (slots' := 0) rfl rfl (by decide) (by decide) (wy := []) (fun _ _ _ q => ⟨q.1, q.2.1⟩) all0 (fun _ _ => trivial) ?_
  intro v17 T17 h17 lo17 W17 K17 q17
  obtain rfl := q17.2.2
  show Gl _ _ _ _ _ _ _ _ [(.int 1)]
  refine o_ifN W17 (pc' := 50) (hb hy d33_47) (XT.i0_eq_f (by decide)) rfl ?_
  refine o_iconst W17 (v := 1) (pc' := 51) (hb hy d33_50) rfl rfl ?_
  refine o_goto W17 (pc' := 55) (hb hy d33_51) (by decide) rfl ?_
  exact o_retN W17 hlk (t := .boolean) hret (by simp) (z' := (1 : Int32)) (by decide) (hb hy d33_55) (by decide) (by decide) rfl
theorem rm71 (l : Launch) (Z : State) (a0 : Array Value) (hw : ∀ d ∈ tables_1, d.before a0 Z = true) (a1 a2 : Addr) (h0 : Heap) (O0 : Old Z Z.heap.size h0) (E_a1 : Exa Z h0 a1 "java/lang/String") (F_a1_value : Fld Z h0 a1 "java/lang/String" "value" "[B" .null) (g_a1 : Z.heap.size ≤ a1) (F_a1_coder : Fld Z h0 a1 "java/lang/String" "coder" "B" (.int 0)) :
    CtrW l Z consts_1 (⟨"java/lang/String", "<init>", "([CIILjava/lang/Void;)V"⟩ : MethodName) jdk_42_method_149_code 6 none [] (⟨1, 4, 8, 12⟩ : Room) #[(.ref a1), (.ref a2), (.int 0), (.int 0), .null] h0 [a1] (fun v h => ∃ r1 : Addr, ∃ r2 : ClassId, Fld Z h a1 "java/lang/String" "value" "[B" (.ref r1) ∧ Fld Z h a1 "java/lang/String" "coder" "B" (.int 0) ∧ Arv Z h r1 r2 .byte (0 : Int32) [] (.int 0) ∧ v = none) := by
  refine CtrW.intro (L0 := #[.val (.ref a1), .val (.ref a2), .val (.int 0), .val (.int 0), .val .null, .unset]) (plainFor_of_name pn4) O0 (own_entry rfl) ?_
  intro p e s m below meth c T0 V0 hy hml hret hlk hnm W0
  refine o_aloadN W0 (pc' := 1) (hb hy d2_0) rfl rfl rfl ?_
  refine o_initO W0 (w11 hw) (w12 hw) (w13 hw) (by rw [hml]; rfl) (pc' := 4) (hb hy d2_1) rfl (by decide) 0 (by exact Nat.le_of_eq rfl) (by decide) ?_
  intro T1 W1
  refine o_iloadN W1 (pc' := 5) (hb hy d2_4) rfl rfl ?_
  refine o_ifN W1 (pc' := 8) (hb hy d2_5) (XT.i0_ne_f (by decide)) rfl ?_
  refine o_aloadN W1 (pc' := 9) (hb hy d2_8) rfl rfl rfl ?_
  refine o_ldcR W1 (w14 hw) (own_wS hw) (own_EL hw) (by simp [consts_1]) (pc' := 11) (hb hy d2_9) rfl (n := 0) (by decide) (by decide) (cells' := 2) (slots' := 4) rfl rfl (by decide) (by decide) (vs := []) (z := (0 : Int32)) ⟨by decide, by decide⟩ (by decide) (by decide) ?_
  intro s2 T2 h2 V2 t2 k2 W2 E2 C2 X2 Fc2 Fv2 A2 ns2
  refine o_getF W2 (w20 hw) Via.refl Fv2 (pc' := 14) (hb hy d2_11) rfl ?_
  intro T3 W3
  have c4 := (E_a1.ext E2)
  have c5 := (F_a1_value.ext E2)
  have sf6 := own_safeS (EL := consts_1) W3.al c4 c5
  refine o_putF W3 (w20 hw) Via.refl c5 c4 (Or.inr ⟨(w16 hw), rfl, hnm⟩) (w2 hw) (ty := (.array .byte)) (v' := (.ref t2)) (by decide) rfl rfl g_a1 (Or.inl (List.mem_of_getElem? (i := 0) rfl)) (fun _ R => IW.wr R sf6 W3.inv) (pc' := 17) (hb hy d2_14) rfl ?_
  intro T7 h7 lo7 W7 R7
  have F7 := c5.same R7
  refine o_aloadN W7 (pc' := 18) (hb hy d2_17) rfl rfl rfl ?_
  refine o_ldcR W7 (w14 hw) (own_wS hw) (own_EL hw) (by simp [consts_1]) (pc' := 20) (hb hy d2_18) rfl (n := 0) (by decide) (by decide) (cells' := 4) (slots' := 8) rfl rfl (by decide) (by decide) (vs := []) (z := (0 : Int32)) ⟨by decide, by decide⟩ (by decide) (by decide) ?_
  intro s8 T8 h8 V8 t8 k8 W8 E8 C8 X8 Fc8 Fv8 A8 ns8
  refine o_getF W8 (w21 hw) Via.refl Fc8 (pc' := 23) (hb hy d2_20) rfl ?_
  intro T9 W9
  have c10 := ((c4.wr R7).ext E8)
  have c11 := (((F_a1_coder.ext E2).other R7 (Or.inr (slot_ne (Or.inr (w17 hw)) (Or.inr (w16 hw)) (by decide) (t := .byte) (t' := (.array .byte)) (by decide) (by decide)))).ext E8)
  have c12 := (c4.wr R7)
  have c13 := (CHr.safe C8 c12.lt (Safe.wr R7 sf6 W3.inv.2.1 sf6))
  refine o_putF W9 (w21 hw) Via.refl c11 c10 (Or.inr ⟨(w17 hw), rfl, hnm⟩) (w2 hw) (ty := .byte) (v' := (.int 0)) (by decide) rfl (by decide) g_a1 (Or.inl (List.mem_of_getElem? (i := 0) rfl)) (fun _ R => IW.wr R c13 W9.inv) (pc' := 26) (hb hy d2_23) rfl ?_
  intro T14 h14 lo14 W14 R14
  have F14 := c11.same R14
  have c15 := ((F7.ext E8).other R14 (Or.inr (slot_ne (Or.inr (w16 hw)) (Or.inr (w17 hw)) (by decide) (t := (.array .byte)) (t' := .byte) (by decide) (by decide))))
  have c16 := (c10.wr R14)
  have c17 := (((A2.other R7 (Ne.symm (ns2 _ sf6).2)).ext E8).other R14 (Ne.symm (ns2 _ sf6).2))
  exact o_ret0W W14 (own_EL hw) hlk hret (hb hy d2_26) (by decide) (by decide) ⟨t2, k2, c15, F14, c17, rfl⟩
theorem rm72 (l : Launch) (Z : State) (a0 : Array Value) (hw : ∀ d ∈ tables_1, d.before a0 Z = true) (a1 a2 : Addr) (k_a2 : ClassId) (h0 : Heap) (O0 : Old Z Z.heap.size h0) (V_a2 : Arv Z h0 a2 k_a2 .char (0 : Int32) [] (.int 0)) (E_a1 : Exa Z h0 a1 "java/lang/String") (F_a1_value : Fld Z h0 a1 "java/lang/String" "value" "[B" .null) (F_a1_coder : Fld Z h0 a1 "java/lang/String" "coder" "B" (.int 0)) (g_a1 : Z.heap.size ≤ a1) :
    CtrW l Z consts_1 (⟨"java/lang/String", "<init>", "([C)V"⟩ : MethodName) jdk_42_method_3_code 2 none [] (⟨2, 4, 8, 29⟩ : Room) #[(.ref a1), (.ref a2)] h0 [a1] (fun v h => ∃ r1 : Addr, ∃ r2 : ClassId, Fld Z h a1 "java/lang/String" "value" "[B" (.ref r1) ∧ Fld Z h a1 "java/lang/String" "coder" "B" (.int 0) ∧ Arv Z h r1 r2 .byte (0 : Int32) [] (.int 0) ∧ v = none) := by
  refine CtrW.intro (L0 := #[.val (.ref a1), .val (.ref a2)]) (plainFor_of_name pn4) O0 (own_entry rfl) ?_
  intro p e s m below meth c T0 V0 hy hml hret hlk hnm W0
  refine o_aloadN W0 (pc' := 1) (hb hy d1_0) rfl rfl rfl ?_
  refine o_aloadN W0 (pc' := 2) (hb hy d1_1) rfl rfl rfl ?_
  refine o_iconst W0 (v := 0) (pc' := 3) (hb hy d1_2) rfl rfl ?_
  refine o_aloadN W0 (pc' := 4) (hb hy d1_3) rfl rfl rfl ?_
  refine o_len W0 V_a2 (pc' := 5) (hb hy d1_4) rfl ?_
  refine o_aconstNull W0 (pc' := 6) (hb hy d1_5) rfl ?_
  refine o_specialW W0 (y := (⟨"java/lang/String", "<init>", "([CIILjava/lang/Void;)V"⟩ : MethodName)) rfl (w7 hw) (w8 hw) (w10 hw) (by decide) (a := a1) (argsL := [(.ref a2), (.int 0), (.int 0), .null]) (CtrW.back (Wd := 0) W0 (rm71 l Z a0 hw a1 a2 h0 W0.old E_a1 F_a1_value g_a1 F_a1_coder) (w10 hw) (w3 hw) (by decide) (by decide) (own_EL hw)) (by rw [hml]; rfl) (lenOf pd22 rfl) (S := []) rfl (by exact Nat.le_of_eq rfl) (pc' := 9) (hb hy d1_6) rfl (cells' := 4) (slots' := 8) rfl rfl (by decide) (by decide) (wy := [a1]) (fun _ _ _ q => ⟨q.1, q.2.1⟩) (allS ⟨g_a1, (Or.inl (List.mem_of_getElem? (i := 0) rfl))⟩ all0)  ?_
  intro v1 T1 h1 V1 lo1 W1 K1 C1 q1
  obtain ⟨r1_1, r2_1, P1_0, P1_1, P1_2, rfl⟩ := q1.2.2
  show Gl _ _ _ _ _ _ _ _ []
  have c2 := (E_a1.keep K1)
  exact o_ret0W W1 (own_EL hw) hlk hret (hb hy d1_9) (by decide) (by decide) ⟨r1_1, r2_1, P1_0, P1_1, P1_2, rfl⟩
theorem rm73 (l : Launch) (Z : State) (a0 : Array Value) (hw : ∀ d ∈ tables_1, d.before a0 Z = true) (gCS : Int32) (a1 a2 : Addr) (k_a2 : ClassId) (h0 : Heap) (O0 : Old Z Z.heap.size h0) (F_a1_value : Fld Z h0 a1 "java/lang/String" "value" "[B" (.ref a2)) (V_a2 : Arv Z h0 a2 k_a2 .byte (0 : Int32) [] (.int 0)) (E_a1 : Exa Z h0 a1 "java/lang/String") (SgCS : Sta Z Z.heap "java/lang/String" "COMPACT_STRINGS" "Z" (.int gCS)) (NgCS : ¬ (gCS = (0 : Int32))) (F_a1_coder : Fld Z h0 a1 "java/lang/String" "coder" "B" (.int 0)) :
    CtrN l Z (⟨"java/lang/String", "length", "()I"⟩ : MethodName) jdk_42_method_54_code 1 (some .int) [] (⟨1, 0, 0, 13⟩ : Room) #[(.ref a1)] h0 [] (fun v h => v = some (.int 0)) := by
  refine CtrN.intro (L0 := #[.val (.ref a1)]) (plainFor_of_name pn4) O0 (own_entry rfl) ?_
  intro p e s m below meth c T0 hy hml hret hlk hnm W0
  refine o_aloadN W0 (pc' := 1) (hb hy d16_0) rfl rfl rfl ?_
  refine o_getF W0 (w20 hw) Via.refl F_a1_value (pc' := 4) (hb hy d16_1) rfl ?_
  intro T1 W1
  refine o_len W1 V_a2 (pc' := 5) (hb hy d16_4) rfl ?_
  refine o_aloadN W1 (pc' := 6) (hb hy d16_5) rfl rfl rfl ?_
  refine o_virtual W1 (y := (⟨"java/lang/String", "coder", "()B"⟩ : MethodName)) (z := (⟨"java/lang/String", "coder", "()B"⟩ : MethodName)) (w95 hw) (w96 hw) (o_nf W1 rfl (w98 hw)) (w98 hw) (w97 hw) (by decide) E_a1 (argsL := []) (CtrN.back (Wd := 1) W1 (rm7 l Z a0 hw gCS a1 h0 W1.old SgCS NgCS F_a1_coder) (w99 hw) (w3 hw) (by decide) (by decide)) (by rw [hml]; rfl) (lenOf pd7 rfl) (S := [(.int 0)]) rfl (by exact Nat.le_of_eq rfl) (pc' := 9) (hb hy d16_6) rfl (cells' := 0) (slots' := 0) rfl rfl (by decide) (by decide) (wy := []) (fun _ _ _ q => ⟨q.1, q.2.1⟩) all0 (fun _ _ => trivial) ?_
  intro v2 T2 h2 lo2 W2 K2 q2
  obtain rfl := q2.2.2
  show Gl _ _ _ _ _ _ _ _ [(.int 0), (.int 0)]
  refine o_ishr W2 (v := 0) (pc' := 10) (hb hy d16_9) (by decide) rfl ?_
  exact o_retI W2 hlk hret (hb hy d16_10) (by decide) (by decide) rfl
theorem rm74 (l : Launch) (Z : State) (a0 : Array Value) (hw : ∀ d ∈ tables_1, d.before a0 Z = true) (a1 a2 : Addr) (k_a2 : ClassId) (x1 x2 x3 x4 x5 x6 x7 x8 : Int32) (h0 : Heap) (O0 : Old Z Z.heap.size h0) (F_a1_value : Fld Z h0 a1 "java/lang/AbstractStringBuilder" "value" "[B" (.ref a2)) (V_a2 : Arv Z h0 a2 k_a2 .byte (16 : Int32) [(.int x1), (.int x2), (.int x3), (.int x4), (.int x5), (.int x1), (.int x6), (.int x7), (.int x8), (.int 0), (.int 0), (.int 0), (.int 0), (.int 0), (.int 0), (.int 0)] (.int 0)) (F_a1_coder : Fld Z h0 a1 "java/lang/AbstractStringBuilder" "coder" "B" (.int 0)) :
    CtrN l Z (⟨"java/lang/AbstractStringBuilder", "ensureCapacityInternal", "(I)V"⟩ : MethodName) jdk_68_method_9_code 3 none [] (⟨0, 0, 0, 0⟩ : Room) #[(.ref a1), (.int 9)] h0 [] (fun v h => v = none) := by
  refine CtrN.intro (L0 := #[.val (.ref a1), .val (.int 9), .unset]) (plainFor_of_name pn2) O0 (own_entry rfl) ?_
  intro p e s m below meth c T0 hy hml hret hlk hnm W0
  refine o_aloadN W0 (pc' := 1) (hb hy d18_0) rfl rfl rfl ?_
  refine o_getF W0 (w75 hw) Via.refl F_a1_value (pc' := 4) (hb hy d18_1) rfl ?_
  intro T1 W1
  refine o_len W1 V_a2 (pc' := 5) (hb hy d18_4) rfl ?_
  refine o_aloadN W1 (pc' := 6) (hb hy d18_5) rfl rfl rfl ?_
  refine o_getF W1 (w77 hw) Via.refl F_a1_coder (pc' := 9) (hb hy d18_6) rfl ?_
  intro T2 W2
  refine o_ishr W2 (v := 16) (pc' := 10) (hb hy d18_9) (by decide) rfl ?_
  refine o_istoreN W2 (L' := #[.val (.ref a1), .val (.int 9), .val (.int 16)]) (pc' := 11) (hb hy d18_10) rfl rfl ?_
  refine o_iloadN W2 (pc' := 12) (hb hy d18_11) rfl rfl ?_
  refine o_iloadN W2 (pc' := 13) (hb hy d18_12) rfl rfl ?_
  refine o_isub W2 (v := (-7 : Int32)) (pc' := 14) (hb hy d18_13) (by decide) rfl ?_
  refine o_ifY W2 (pc' := 38) (hb hy d18_14) (XT.i0_le_t (by decide)) (by decide) rfl ?_
  exact o_ret0 W2 hlk hret (hb hy d18_38) (by decide) (by decide) rfl
theorem rm75 (l : Launch) (Z : State) (a0 : Array Value) (hw : ∀ d ∈ tables_1, d.before a0 Z = true) (gCS : Int32) (a1 a2 a3 : Addr) (k_a3 k_a2 : ClassId) (x1 x2 x3 x4 x5 x6 x7 x8 : Int32) (h0 : Heap) (O0 : Old Z Z.heap.size h0) (E_a1 : Exa Z h0 a1 "java/lang/String") (SgCS : Sta Z Z.heap "java/lang/String" "COMPACT_STRINGS" "Z" (.int gCS)) (NgCS : ¬ (gCS = (0 : Int32))) (F_a1_coder : Fld Z h0 a1 "java/lang/String" "coder" "B" (.int 0)) (F_a1_value : Fld Z h0 a1 "java/lang/String" "value" "[B" (.ref a3)) (V_a3 : Arv Z h0 a3 k_a3 .byte (0 : Int32) [] (.int 0)) (V_a2 : Arv Z h0 a2 k_a2 .byte (16 : Int32) [(.int x1), (.int x2), (.int x3), (.int x4), (.int x5), (.int x1), (.int x6), (.int x7), (.int x8), (.int 0), (.int 0), (.int 0), (.int 0), (.int 0), (.int 0), (.int 0)] (.int 0)) (g_a2 : Z.heap.size ≤ a2) :
    CtrN l Z (⟨"java/lang/String", "getBytes", "([BIB)V"⟩ : MethodName) jdk_42_method_147_code 4 none [] (⟨1, 0, 0, 27⟩ : Room) #[(.ref a1), (.ref a2), (.int 9), (.int 0)] h0 [a2] (fun v h => Arv Z h a2 k_a2 .byte (16 : Int32) [(.int x1), (.int x2), (.int x3), (.int x4), (.int x5), (.int x1), (.int x6), (.int x7), (.int x8), (.int 0), (.int 0), (.int 0), (.int 0), (.int 0), (.int 0), (.int 0)] (.int 0) ∧ v = none) := by
  refine CtrN.intro (L0 := #[.val (.ref a1), .val (.ref a2), .val (.int 9), .val (.int 0)]) (plainFor_of_name pn4) O0 (own_entry rfl) ?_
  intro p e s m below meth c T0 hy hml hret hlk hnm W0
  refine o_aloadN W0 (pc' := 1) (hb hy d21_0) rfl rfl rfl ?_
  refine o_virtual W0 (y := (⟨"java/lang/String", "coder", "()B"⟩ : MethodName)) (z := (⟨"java/lang/String", "coder", "()B"⟩ : MethodName)) (w95 hw) (w96 hw) (o_nf W0 rfl (w98 hw)) (w98 hw) (w97 hw) (by decide) E_a1 (argsL := []) (CtrN.back (Wd := 0) W0 (rm7 l Z a0 hw gCS a1 h0 W0.old SgCS NgCS F_a1_coder) (w99 hw) (w3 hw) (by decide) (by decide)) (by rw [hml]; rfl) (lenOf pd7 rfl) (S := []) rfl (by exact Nat.le_of_eq rfl) (pc' := 4) (hb hy d21_1) rfl (cells' := 0) (slots' := 0) rfl rfl (by decide) (by decide) (wy := []) (fun _ _ _ q => ⟨q.1, q.2.1⟩) all0 (fun _ _ => trivial) ?_
  intro v1 T1 h1 lo1 W1 K1 q1
  obtain rfl := q1.2.2
  show Gl _ _ _ _ _ _ _ _ [(.int 0)]
  refine o_iloadN W1 (pc' := 5) (hb hy d21_4) rfl rfl ?_
  refine o_icmpN W1 (pc' := 8) (hb hy d21_5) (XT.ii_ne_f (by decide)) rfl ?_
  refine o_aloadN W1 (pc' := 9) (hb hy d21_8) rfl rfl rfl ?_
  have c2 := (F_a1_value.keep K1 nin0)
  refine o_getF W1 (w20 hw) Via.refl c2 (pc' := 12) (hb hy d21_9) rfl ?_
  intro T3 W3
  refine o_iconst W3 (v := 0) (pc' := 13) (hb hy d21_12) rfl rfl ?_
  refine o_aloadN W3 (pc' := 14) (hb hy d21_13) rfl rfl rfl ?_
  refine o_iloadN W3 (pc' := 15) (hb hy d21_14) rfl rfl ?_
  refine o_iloadN W3 (pc' := 16) (hb hy d21_15) rfl rfl ?_
  refine o_ishl W3 (v := 9) (pc' := 17) (hb hy d21_16) (by decide) rfl ?_
  refine o_aloadN W3 (pc' := 18) (hb hy d21_17) rfl rfl rfl ?_
  refine o_getF W3 (w20 hw) Via.refl c2 (pc' := 21) (hb hy d21_18) rfl ?_
  intro T4 W4
  have c5 := (V_a3.keep K1 nin0)
  refine o_len W4 c5 (pc' := 22) (hb hy d21_21) rfl ?_
  have c6 := (V_a2.keep K1 nin0)
  refine o_copy W4 (w123 hw) (w126 hw) (w124 hw) (w125 hw) c5 c6 (us := []) (Or.inl ⟨rfl, rfl⟩) (by decide) (by decide) (by decide) (by decide) (by decide) rfl (Nat.le_of_ble_eq_true rfl) (vd' := [(.int x1), (.int x2), (.int x3), (.int x4), (.int x5), (.int x1), (.int x6), (.int x7), (.int x8), (.int 0), (.int 0), (.int 0), (.int 0), (.int 0), (.int 0), (.int 0)]) rfl g_a2 (Or.inl (List.mem_of_getElem? (i := 0) rfl)) (fun _ _ => trivial) (by rw [hml]; rfl) (pc' := 25) (hb hy d21_22) rfl (by decide) 0 (by exact Nat.le_of_eq rfl) (by decide) ?_
  intro T7 h7 lo7 W7 K7 V7
  refine o_goto W7 (pc' := 43) (hb hy d21_25) (by decide) rfl ?_
  exact o_ret0 W7 hlk hret (hb hy d21_43) (by decide) (by decide) ⟨V7, rfl⟩
theorem rm76 (l : Launch) (Z : State) (a0 : Array Value) (hw : ∀ d ∈ tables_1, d.before a0 Z = true) (gCS : Int32) (a1 a2 a3 a4 : Addr) (k_a4 k_a3 : ClassId) (x1 x2 x3 x4 x5 x6 x7 x8 : Int32) (h0 : Heap) (O0 : Old Z Z.heap.size h0) (E_a1 : Exa Z h0 a1 "java/lang/StringBuilder") (SgCS : Sta Z Z.heap "java/lang/String" "COMPACT_STRINGS" "Z" (.int gCS)) (NgCS : ¬ (gCS = (0 : Int32))) (F_a1_coder : Fld Z h0 a1 "java/lang/AbstractStringBuilder" "coder" "B" (.int 0)) (E_a2 : Exa Z h0 a2 "java/lang/String") (F_a2_coder : Fld Z h0 a2 "java/lang/String" "coder" "B" (.int 0)) (F_a1_value : Fld Z h0 a1 "java/lang/AbstractStringBuilder" "value" "[B" (.ref a3)) (F_a2_value : Fld Z h0 a2 "java/lang/String" "value" "[B" (.ref a4)) (V_a4 : Arv Z h0 a4 k_a4 .byte (0 : Int32) [] (.int 0)) (V_a3 : Arv Z h0 a3 k_a3 .byte (16 : Int32) [(.int x1), (.int x2), (.int x3), (.int x4), (.int x5), (.int x1), (.int x6), (.int x7), (.int x8), (.int 0), (.int 0), (.int 0), (.int 0), (.int 0), (.int 0), (.int 0)] (.int 0)) (g_a3 : Z.heap.size ≤ a3) :
    CtrN l Z (⟨"java/lang/AbstractStringBuilder", "putStringAt", "(ILjava/lang/String;)V"⟩ : MethodName) jdk_68_method_73_code 3 none [] (⟨2, 0, 0, 42⟩ : Room) #[(.ref a1), (.int 9), (.ref a2)] h0 [a3] (fun v h => Arv Z h a3 k_a3 .byte (16 : Int32) [(.int x1), (.int x2), (.int x3), (.int x4), (.int x5), (.int x1), (.int x6), (.int x7), (.int x8), (.int 0), (.int 0), (.int 0), (.int 0), (.int 0), (.int 0), (.int 0)] (.int 0) ∧ v = none) := by
  refine CtrN.intro (L0 := #[.val (.ref a1), .val (.int 9), .val (.ref a2)]) (plainFor_of_name pn2) O0 (own_entry rfl) ?_
  intro p e s m below meth c T0 hy hml hret hlk hnm W0
  refine o_aloadN W0 (pc' := 1) (hb hy d19_0) rfl rfl rfl ?_
  refine o_aloadN W0 (pc' := 2) (hb hy d19_1) rfl rfl rfl ?_
  refine o_private W0 (y := (⟨"java/lang/AbstractStringBuilder", "inflateIfNeededFor", "(Ljava/lang/String;)V"⟩ : MethodName)) (w112 hw) (w113 hw) (w115 hw) (w114 hw) (w116 hw) (by decide) E_a1 (argsL := [(.ref a2)]) (CtrN.back (Wd := 0) W0 (rm10 l Z a0 hw gCS a1 a2 h0 W0.old SgCS NgCS F_a1_coder E_a2 F_a2_coder) (w116 hw) (w71 hw) (by decide) (by decide)) (by rw [hml]; rfl) (lenOf pd2 rfl) (S := []) rfl (by exact Nat.le_of_eq rfl) (pc' := 5) (hb hy d19_2) rfl (cells' := 0) (slots' := 0) rfl rfl (by decide) (by decide) (wy := []) (fun _ _ _ q => ⟨q.1, q.2.1⟩) all0 (fun _ _ => trivial) ?_
  intro v1 T1 h1 lo1 W1 K1 q1
  obtain rfl := q1.2.2
  show Gl _ _ _ _ _ _ _ _ []
  refine o_aloadN W1 (pc' := 6) (hb hy d19_5) rfl rfl rfl ?_
  refine o_aloadN W1 (pc' := 7) (hb hy d19_6) rfl rfl rfl ?_
  have c2 := (F_a1_value.keep K1 nin0)
  refine o_getF W1 (w75 hw) Via.refl c2 (pc' := 10) (hb hy d19_7) rfl ?_
  intro T3 W3
  refine o_iloadN W3 (pc' := 11) (hb hy d19_10) rfl rfl ?_
  refine o_aloadN W3 (pc' := 12) (hb hy d19_11) rfl rfl rfl ?_
  have c4 := (F_a1_coder.keep K1 nin0)
  refine o_getF W3 (w77 hw) Via.refl c4 (pc' := 15) (hb hy d19_12) rfl ?_
  intro T5 W5
  have c6 := (F_a2_coder.keep K1 nin0)
  have c7 := (F_a2_value.keep K1 nin0)
  have c8 := (V_a4.keep K1 nin0)
  have c9 := (V_a3.keep K1 nin0)
  have c10 := (E_a2.keep K1)
  refine o_virtual W5 (y := (⟨"java/lang/String", "getBytes", "([BIB)V"⟩ : MethodName)) (z := (⟨"java/lang/String", "getBytes", "([BIB)V"⟩ : MethodName)) (w118 hw) (w119 hw) (o_nf W5 rfl (w121 hw)) (w121 hw) (w120 hw) (by decide) c10 (argsL := [(.ref a3), (.int 9), (.int 0)]) (CtrN.back (Wd := 0) W5 (rm75 l Z a0 hw gCS a2 a3 a4 k_a4 k_a3 x1 x2 x3 x4 x5 x6 x7 x8 h1 W5.old c10 SgCS NgCS c6 c7 c8 c9 g_a3) (w122 hw) (w3 hw) (by decide) (by decide)) (by rw [hml]; rfl) (lenOf pd9 rfl) (S := []) rfl (by exact Nat.le_of_eq rfl) (pc' := 18) (hb hy d19_15) rfl (cells' := 0) (slots' := 0) rfl rfl (by decide) (by decide) (wy := [a3]) (fun _ _ _ q => ⟨q.1, q.2.1⟩) (allS ⟨g_a3, (Or.inl (List.mem_of_getElem? (i := 0) rfl))⟩ all0) (fun _ _ => trivial) ?_
  intro v11 T11 h11 lo11 W11 K11 q11
  obtain ⟨P11_0, rfl⟩ := q11.2.2
  show Gl _ _ _ _ _ _ _ _ []
  exact o_ret0 W11 hlk hret (hb hy d19_18) (by decide) (by decide) ⟨P11_0, rfl⟩
theorem rm77 (l : Launch) (Z : State) (a0 : Array Value) (hw : ∀ d ∈ tables_1, d.before a0 Z = true) (gCS : Int32) (a1 a2 a3 : Addr) (k_a3 : ClassId) (a4 : Addr) (k_a4 : ClassId) (x1 x2 x3 x4 x5 x6 x7 x8 : Int32) (h0 : Heap) (O0 : Old Z Z.heap.size h0) (E_a2 : Exa Z h0 a2 "java/lang/String") (F_a2_value : Fld Z h0 a2 "java/lang/String" "value" "[B" (.ref a3)) (V_a3 : Arv Z h0 a3 k_a3 .byte (0 : Int32) [] (.int 0)) (SgCS : Sta Z Z.heap "java/lang/String" "COMPACT_STRINGS" "Z" (.int gCS)) (NgCS : ¬ (gCS = (0 : Int32))) (F_a2_coder : Fld Z h0 a2 "java/lang/String" "coder" "B" (.int 0)) (F_a1_count : Fld Z h0 a1 "java/lang/AbstractStringBuilder" "count" "I" (.int 9)) (E_a1 : Exa Z h0 a1 "java/lang/StringBuilder") (F_a1_value : Fld Z h0 a1 "java/lang/AbstractStringBuilder" "value" "[B" (.ref a4)) (V_a4 : Arv Z h0 a4 k_a4 .byte (16 : Int32) [(.int x1), (.int x2), (.int x3), (.int x4), (.int x5), (.int x1), (.int x6), (.int x7), (.int x8), (.int 0), (.int 0), (.int 0), (.int 0), (.int 0), (.int 0), (.int 0)] (.int 0)) (F_a1_coder : Fld Z h0 a1 "java/lang/AbstractStringBuilder" "coder" "B" (.int 0)) (g_a4 : Z.heap.size ≤ a4) (g_a1 : Z.heap.size ≤ a1) :
    CtrN l Z (⟨"java/lang/AbstractStringBuilder", "append", "(Ljava/lang/String;)Ljava/lang/AbstractStringBuilder;"⟩ : MethodName) jdk_68_method_22_code 3 (some (.object "java/lang/AbstractStringBuilder")) [] (⟨3, 0, 0, 56⟩ : Room) #[(.ref a1), (.ref a2)] h0 [a4, a1] (fun v h => Fld Z h a1 "java/lang/AbstractStringBuilder" "count" "I" (.int 9) ∧ Fld Z h a1 "java/lang/AbstractStringBuilder" "value" "[B" (.ref a4) ∧ Arv Z h a4 k_a4 .byte (16 : Int32) [(.int x1), (.int x2), (.int x3), (.int x4), (.int x5), (.int x1), (.int x6), (.int x7), (.int x8), (.int 0), (.int 0), (.int 0), (.int 0), (.int 0), (.int 0), (.int 0)] (.int 0) ∧ Fld Z h a1 "java/lang/AbstractStringBuilder" "coder" "B" (.int 0) ∧ v = some (.ref a1)) := by
  refine CtrN.intro (L0 := #[.val (.ref a1), .val (.ref a2), .unset]) (plainFor_of_name pn2) O0 (own_entry rfl) ?_
  intro p e s m below meth c T0 hy hml hret hlk hnm W0
  refine o_aloadN W0 (pc' := 1) (hb hy d15_0) rfl rfl rfl ?_
  refine o_ifnonnullY W0 (pc' := 9) (hb hy d15_1) (by decide) rfl ?_
  refine o_aloadN W0 (pc' := 10) (hb hy d15_9) rfl rfl rfl ?_
  refine o_virtual W0 (y := (⟨"java/lang/String", "length", "()I"⟩ : MethodName)) (z := (⟨"java/lang/String", "length", "()I"⟩ : MethodName)) (w90 hw) (w91 hw) (o_nf W0 rfl (w93 hw)) (w93 hw) (w92 hw) (by decide) E_a2 (argsL := []) (CtrN.back (Wd := 0) W0 (rm73 l Z a0 hw gCS a2 a3 k_a3 h0 W0.old F_a2_value V_a3 E_a2 SgCS NgCS F_a2_coder) (w94 hw) (w3 hw) (by decide) (by decide)) (by rw [hml]; rfl) (lenOf pd8 rfl) (S := []) rfl (by exact Nat.le_of_eq rfl) (pc' := 13) (hb hy d15_10) rfl (cells' := 0) (slots' := 0) rfl rfl (by decide) (by decide) (wy := []) (fun _ _ _ q => ⟨q.1, q.2.1⟩) all0 (fun _ _ => trivial) ?_
  intro v1 T1 h1 lo1 W1 K1 q1
  obtain rfl := q1.2.2
  show Gl _ _ _ _ _ _ _ _ [(.int 0)]
  refine o_istoreN W1 (L' := #[.val (.ref a1), .val (.ref a2), .val (.int 0)]) (pc' := 14) (hb hy d15_13) rfl rfl ?_
  refine o_aloadN W1 (pc' := 15) (hb hy d15_14) rfl rfl rfl ?_
  refine o_aloadN W1 (pc' := 16) (hb hy d15_15) rfl rfl rfl ?_
  have c2 := (F_a1_count.keep K1 nin0)
  refine o_getF W1 (w100 hw) Via.refl c2 (pc' := 19) (hb hy d15_16) rfl ?_
  intro T3 W3
  refine o_iloadN W3 (pc' := 20) (hb hy d15_19) rfl rfl ?_
  refine o_iadd W3 (v := 9) (pc' := 21) (hb hy d15_20) (by decide) rfl ?_
  have c4 := (E_a1.keep K1)
  have c5 := (F_a1_value.keep K1 nin0)
  have c6 := (V_a4.keep K1 nin0)
  have c7 := (F_a1_coder.keep K1 nin0)
  refine o_private W3 (y := (⟨"java/lang/AbstractStringBuilder", "ensureCapacityInternal", "(I)V"⟩ : MethodName)) (w102 hw) (w103 hw) (w105 hw) (w104 hw) (w106 hw) (by decide) c4 (argsL := [(.int 9)]) (CtrN.back (Wd := 0) W3 (rm74 l Z a0 hw a1 a4 k_a4 x1 x2 x3 x4 x5 x6 x7 x8 h1 W3.old c5 c6 c7) (w106 hw) (w71 hw) (by decide) (by decide)) (by rw [hml]; rfl) (lenOf pd5 rfl) (S := []) rfl (by exact Nat.le_of_eq rfl) (pc' := 24) (hb hy d15_21) rfl (cells' := 0) (slots' := 0) rfl rfl (by decide) (by decide) (wy := []) (fun _ _ _ q => ⟨q.1, q.2.1⟩) all0 (fun _ _ => trivial) ?_
  intro v8 T8 h8 lo8 W8 K8 q8
  obtain rfl := q8.2.2
  show Gl _ _ _ _ _ _ _ _ []
  refine o_aloadN W8 (pc' := 25) (hb hy d15_24) rfl rfl rfl ?_
  refine o_aloadN W8 (pc' := 26) (hb hy d15_25) rfl rfl rfl ?_
  have c9 := (c2.keep K8 nin0)
  refine o_getF W8 (w100 hw) Via.refl c9 (pc' := 29) (hb hy d15_26) rfl ?_
  intro T10 W10
  refine o_aloadN W10 (pc' := 30) (hb hy d15_29) rfl rfl rfl ?_
  have c11 := (c7.keep K8 nin0)
  have c12 := ((F_a2_coder.keep K1 nin0).keep K8 nin0)
  have c13 := (c5.keep K8 nin0)
  have c14 := ((F_a2_value.keep K1 nin0).keep K8 nin0)
  have c15 := ((V_a3.keep K1 nin0).keep K8 nin0)
  have c16 := (c6.keep K8 nin0)
  have c17 := (c4.keep K8)
  have c18 := ((E_a2.keep K1).keep K8)
  refine o_private W10 (y := (⟨"java/lang/AbstractStringBuilder", "putStringAt", "(ILjava/lang/String;)V"⟩ : MethodName)) (w107 hw) (w108 hw) (w110 hw) (w109 hw) (w111 hw) (by decide) c17 (argsL := [(.int 9), (.ref a2)]) (CtrN.back (Wd := 0) W10 (rm76 l Z a0 hw gCS a1 a2 a4 a3 k_a3 k_a4 x1 x2 x3 x4 x5 x6 x7 x8 h8 W10.old c17 SgCS NgCS c11 c18 c12 c13 c14 c15 c16 g_a4) (w111 hw) (w71 hw) (by decide) (by decide)) (by rw [hml]; rfl) (lenOf pd10 rfl) (S := []) rfl (by exact Nat.le_of_eq rfl) (pc' := 33) (hb hy d15_30) rfl (cells' := 0) (slots' := 0) rfl rfl (by decide) (by decide) (wy := [a4]) (fun _ _ _ q => ⟨q.1, q.2.1⟩) (allS ⟨g_a4, (Or.inl (List.mem_of_getElem? (i := 0) rfl))⟩ all0) (fun _ _ => trivial) ?_
  intro v19 T19 h19 lo19 W19 K19 q19
  obtain ⟨P19_0, rfl⟩ := q19.2.2
  show Gl _ _ _ _ _ _ _ _ []
  refine o_aloadN W19 (pc' := 34) (hb hy d15_33) rfl rfl rfl ?_
  refine o_dup W19 (pc' := 35) (hb hy d15_34) rfl rfl ?_
  have c20 := (c17.keep K19)
  have c21 := (c9.keep K19 (ninS (Exa.neArv c17 c16 (w62 hw)) nin0))
  refine o_getF W19 (w100 hw) Via.refl c21 (pc' := 38) (hb hy d15_35) rfl ?_
  intro T22 W22
  refine o_iloadN W22 (pc' := 39) (hb hy d15_38) rfl rfl ?_
  refine o_iadd W22 (v := 9) (pc' := 40) (hb hy d15_39) (by decide) rfl ?_
  refine o_putF W22 (w100 hw) Via.refl c21 c20 (Or.inl (w101 hw)) (w62 hw) (ty := .int) (v' := (.int 9)) (by decide) rfl rfl g_a1 (Or.inl (List.mem_of_getElem? (i := 1) rfl)) (fun _ _ => trivial) (pc' := 43) (hb hy d15_40) rfl ?_
  intro T23 h23 lo23 W23 R23
  have F23 := c21.same R23
  refine o_aloadN W23 (pc' := 44) (hb hy d15_43) rfl rfl rfl ?_
  have c24 := (c20.wr R23)
  have c25 := ((c13.keep K19 (ninS (Exa.neArv c17 c16 (w62 hw)) nin0)).other R23 (Or.inr (slot_ne (Or.inl (w76 hw)) (Or.inl (w101 hw)) (by decide) (t := (.array .byte)) (t' := .int) (by decide) (by decide))))
  have c26 := ((c11.keep K19 (ninS (Exa.neArv c17 c16 (w62 hw)) nin0)).other R23 (Or.inr (slot_ne (Or.inl (w78 hw)) (Or.inl (w101 hw)) (by decide) (t := .byte) (t' := .int) (by decide) (by decide))))
  have c27 := (P19_0.other R23 (Ne.symm (Exa.neArv c20 P19_0 (w62 hw))))
  exact o_retA W23 hlk (v := (.ref a1)) hret rfl rfl (hb hy d15_44) (by decide) (by decide) ⟨F23, c25, c27, c26, rfl⟩
theorem rm78 (l : Launch) (Z : State) (a0 : Array Value) (hw : ∀ d ∈ tables_1, d.before a0 Z = true) (gCS : Int32) (a1 a2 a3 : Addr) (k_a3 : ClassId) (a4 : Addr) (k_a4 : ClassId) (x1 x2 x3 x4 x5 x6 x7 x8 : Int32) (h0 : Heap) (O0 : Old Z Z.heap.size h0) (E_a2 : Exa Z h0 a2 "java/lang/String") (F_a2_value : Fld Z h0 a2 "java/lang/String" "value" "[B" (.ref a3)) (V_a3 : Arv Z h0 a3 k_a3 .byte (0 : Int32) [] (.int 0)) (SgCS : Sta Z Z.heap "java/lang/String" "COMPACT_STRINGS" "Z" (.int gCS)) (NgCS : ¬ (gCS = (0 : Int32))) (F_a2_coder : Fld Z h0 a2 "java/lang/String" "coder" "B" (.int 0)) (F_a1_count : Fld Z h0 a1 "java/lang/AbstractStringBuilder" "count" "I" (.int 9)) (E_a1 : Exa Z h0 a1 "java/lang/StringBuilder") (F_a1_value : Fld Z h0 a1 "java/lang/AbstractStringBuilder" "value" "[B" (.ref a4)) (V_a4 : Arv Z h0 a4 k_a4 .byte (16 : Int32) [(.int x1), (.int x2), (.int x3), (.int x4), (.int x5), (.int x1), (.int x6), (.int x7), (.int x8), (.int 0), (.int 0), (.int 0), (.int 0), (.int 0), (.int 0), (.int 0)] (.int 0)) (F_a1_coder : Fld Z h0 a1 "java/lang/AbstractStringBuilder" "coder" "B" (.int 0)) (g_a4 : Z.heap.size ≤ a4) (g_a1 : Z.heap.size ≤ a1) :
    CtrN l Z (⟨"java/lang/StringBuilder", "append", "(Ljava/lang/String;)Ljava/lang/StringBuilder;"⟩ : MethodName) jdk_67_method_7_code 2 (some (.object "java/lang/StringBuilder")) [] (⟨4, 0, 0, 70⟩ : Room) #[(.ref a1), (.ref a2)] h0 [a1, a4] (fun v h => Fld Z h a1 "java/lang/AbstractStringBuilder" "count" "I" (.int 9) ∧ Fld Z h a1 "java/lang/AbstractStringBuilder" "value" "[B" (.ref a4) ∧ Arv Z h a4 k_a4 .byte (16 : Int32) [(.int x1), (.int x2), (.int x3), (.int x4), (.int x5), (.int x1), (.int x6), (.int x7), (.int x8), (.int 0), (.int 0), (.int 0), (.int 0), (.int 0), (.int 0), (.int 0)] (.int 0) ∧ Fld Z h a1 "java/lang/AbstractStringBuilder" "coder" "B" (.int 0) ∧ v = some (.ref a1)) := by
  refine CtrN.intro (L0 := #[.val (.ref a1), .val (.ref a2)]) (plainFor_of_name pn3) O0 (own_entry rfl) ?_
  intro p e s m below meth c T0 hy hml hret hlk hnm W0
  refine o_aloadN W0 (pc' := 1) (hb hy d14_0) rfl rfl rfl ?_
  refine o_aloadN W0 (pc' := 2) (hb hy d14_1) rfl rfl rfl ?_
  refine o_super W0 (y := (⟨"java/lang/AbstractStringBuilder", "append", "(Ljava/lang/String;)Ljava/lang/AbstractStringBuilder;"⟩ : MethodName)) (by decide) (w85 hw) (w86 hw) (own_sameN (y := (⟨"java/lang/AbstractStringBuilder", "append", "(Ljava/lang/String;)Ljava/lang/AbstractStringBuilder;"⟩ : MethodName)) (y2 := (⟨"java/lang/AbstractStringBuilder", "ensureCapacityInternal", "(I)V"⟩ : MethodName)) (by decide) (w86 hw) rfl (w103 hw) (w105 hw)) (w87 hw) (w89 hw) (Ins.self E_a1) (argsL := [(.ref a2)]) (CtrN.back (Wd := 0) W0 (rm77 l Z a0 hw gCS a1 a2 a3 k_a3 a4 k_a4 x1 x2 x3 x4 x5 x6 x7 x8 h0 W0.old E_a2 F_a2_value V_a3 SgCS NgCS F_a2_coder F_a1_count E_a1 F_a1_value V_a4 F_a1_coder g_a4 g_a1) (w89 hw) (w71 hw) (by decide) (by decide)) (by rw [hml]; rfl) (lenOf pd11 rfl) (S := []) rfl (by exact Nat.le_of_eq rfl) (pc' := 5) (hb hy d14_2) rfl (cells' := 0) (slots' := 0) rfl rfl (by decide) (by decide) (wy := [a4, a1]) (fun _ _ _ q => ⟨q.1, q.2.1⟩) (allS ⟨g_a4, (Or.inl (List.mem_of_getElem? (i := 1) rfl))⟩ (allS ⟨g_a1, (Or.inl (List.mem_of_getElem? (i := 0) rfl))⟩ all0)) (fun _ _ => trivial) ?_
  intro v1 T1 h1 lo1 W1 K1 q1
  obtain ⟨P1_0, P1_1, P1_2, P1_3, rfl⟩ := q1.2.2
  show Gl _ _ _ _ _ _ _ _ [(.ref a1)]
  refine o_pop W1 (pc' := 6) (hb hy d14_5) rfl rfl ?_
  refine o_aloadN W1 (pc' := 7) (hb hy d14_6) rfl rfl rfl ?_
  have c2 := (E_a1.keep K1)
  exact o_retA W1 hlk (v := (.ref a1)) hret rfl rfl (hb hy d14_7) (by decide) (by decide) ⟨P1_0, P1_1, P1_2, P1_3, rfl⟩
theorem rm79 (l : Launch) (Z : State) (a0 : Array Value) (hw : ∀ d ∈ tables_1, d.before a0 Z = true) (a1 : Addr) (h0 : Heap) (O0 : Old Z Z.heap.size h0) (F_a1_count : Fld Z h0 a1 "java/lang/AbstractStringBuilder" "count" "I" (.int 9)) :
    CtrN l Z (⟨"java/lang/AbstractStringBuilder", "length", "()I"⟩ : MethodName) jdk_68_method_6_code 1 (some .int) [] (⟨0, 0, 0, 0⟩ : Room) #[(.ref a1)] h0 [] (fun v h => v = some (.int 9)) := by
  refine CtrN.intro (L0 := #[.val (.ref a1)]) (plainFor_of_name pn2) O0 (own_entry rfl) ?_
  intro p e s m below meth c T0 hy hml hret hlk hnm W0
  refine o_aloadN W0 (pc' := 1) (hb hy d27_0) rfl rfl rfl ?_
  refine o_getF W0 (w100 hw) Via.refl F_a1_count (pc' := 4) (hb hy d27_1) rfl ?_
  intro T1 W1
  exact o_retI W1 hlk hret (hb hy d27_4) (by decide) (by decide) rfl
theorem rm80 (l : Launch) (Z : State) (a0 : Array Value) (hw : ∀ d ∈ tables_1, d.before a0 Z = true) (a1 : Addr) (h0 : Heap) (O0 : Old Z Z.heap.size h0) (F_a1_count : Fld Z h0 a1 "java/lang/AbstractStringBuilder" "count" "I" (.int 9)) (E_a1 : Exa Z h0 a1 "java/lang/StringBuilder") :
    CtrN l Z (⟨"java/lang/StringBuilder", "length", "()I"⟩ : MethodName) jdk_67_method_93_code 1 (some .int) [] (⟨1, 0, 0, 12⟩ : Room) #[(.ref a1)] h0 [] (fun v h => v = some (.int 9)) := by
  refine CtrN.intro (L0 := #[.val (.ref a1)]) (plainFor_of_name pn3) O0 (own_entry rfl) ?_
  intro p e s m below meth c T0 hy hml hret hlk hnm W0
  refine o_aloadN W0 (pc' := 1) (hb hy d26_0) rfl rfl rfl ?_
  refine o_super W0 (y := (⟨"java/lang/AbstractStringBuilder", "length", "()I"⟩ : MethodName)) (by decide) (w150 hw) (w146 hw) (own_sameN (y := (⟨"java/lang/AbstractStringBuilder", "length", "()I"⟩ : MethodName)) (y2 := (⟨"java/lang/AbstractStringBuilder", "ensureCapacityInternal", "(I)V"⟩ : MethodName)) (by decide) (w146 hw) rfl (w103 hw) (w105 hw)) (w87 hw) (w151 hw) (Ins.self E_a1) (argsL := []) (CtrN.back (Wd := 0) W0 (rm79 l Z a0 hw a1 h0 W0.old F_a1_count) (w151 hw) (w71 hw) (by decide) (by decide)) (by rw [hml]; rfl) (lenOf pd8 rfl) (S := []) rfl (by exact Nat.le_of_eq rfl) (pc' := 4) (hb hy d26_1) rfl (cells' := 0) (slots' := 0) rfl rfl (by decide) (by decide) (wy := []) (fun _ _ _ q => ⟨q.1, q.2.1⟩) all0 (fun _ _ => trivial) ?_
  intro v1 T1 h1 lo1 W1 K1 q1
  obtain rfl := q1.2.2
  show Gl _ _ _ _ _ _ _ _ [(.int 9)]
  exact o_retI W1 hlk hret (hb hy d26_4) (by decide) (by decide) rfl
theorem rm81 (l : Launch) (Z : State) (a0 : Array Value) (hw : ∀ d ∈ tables_1, d.before a0 Z = true)  (h0 : Heap) (O0 : Old Z Z.heap.size h0) :
    CtrN l Z (⟨"java/util/Arrays", "checkLength", "(II)V"⟩ : MethodName) jdk_65_method_131_code 2 none [] (⟨0, 0, 0, 0⟩ : Room) #[(.int 0), (.int 9)] h0 [] (fun v h => v = none) := by
  refine CtrN.intro (L0 := #[.val (.int 0), .val (.int 9)]) (plainFor_of_name pn5) O0 (own_entry rfl) ?_
  intro p e s m below meth c T0 hy hml hret hlk hnm W0
  refine o_iloadN W0 (pc' := 1) (hb hy d31_0) rfl rfl ?_
  refine o_iloadN W0 (pc' := 2) (hb hy d31_1) rfl rfl ?_
  refine o_icmpY W0 (pc' := 37) (hb hy d31_2) (XT.ii_ge_t (by decide)) (by decide) rfl ?_
  exact o_ret0 W0 hlk hret (hb hy d31_37) (by decide) (by decide) rfl
theorem rm82 (l : Launch) (Z : State) (a0 : Array Value) (hw : ∀ d ∈ tables_1, d.before a0 Z = true)  (h0 : Heap) (O0 : Old Z Z.heap.size h0) :
    CtrN l Z (⟨"java/lang/Math", "min", "(II)I"⟩ : MethodName) jdk_29_method_69_code 2 (some .int) [] (⟨0, 0, 0, 0⟩ : Room) #[(.int 16), (.int 9)] h0 [] (fun v h => v = some (.int 9)) := by
  refine CtrN.intro (L0 := #[.val (.int 16), .val (.int 9)]) (Jvm.Free.JP.mathPlain rfl (by decide +kernel)) O0 (own_entry rfl) ?_
  intro p e s m below meth c T0 hy hml hret hlk hnm W0
  refine o_iloadN W0 (pc' := 1) (hb hy d32_0) rfl rfl ?_
  refine o_iloadN W0 (pc' := 2) (hb hy d32_1) rfl rfl ?_
  refine o_icmpY W0 (pc' := 9) (hb hy d32_2) (XT.ii_gt_t (by decide)) (by decide) rfl ?_
  refine o_iloadN W0 (pc' := 10) (hb hy d32_9) rfl rfl ?_
  exact o_retI W0 hlk hret (hb hy d32_10) (by decide) (by decide) rfl
theorem rm83 (l : Launch) (Z : State) (a0 : Array Value) (hw : ∀ d ∈ tables_1, d.before a0 Z = true) (a1 : Addr) (k_a1 : ClassId) (x1 x2 x3 x4 x5 x6 x7 x8 : Int32) (h0 : Heap) (O0 : Old Z Z.heap.size h0) (V_a1 : Arv Z h0 a1 k_a1 .byte (16 : Int32) [(.int x1), (.int x2), (.int x3), (.int x4), (.int x5), (.int x1), (.int x6), (.int x7), (.int x8), (.int 0), (.int 0), (.int 0), (.int 0), (.int 0), (.int 0), (.int 0)] (.int 0)) :
    CtrN l Z (⟨"java/util/Arrays", "copyOfRangeByte", "([BII)[B"⟩ : MethodName) jdk_65_method_133_code 5 (some (.array .byte)) [] (⟨1, 1, 9, 27⟩ : Room) #[(.ref a1), (.int 0), (.int 9)] h0 [] (fun v h => ∃ r1 : Addr, ∃ r2 : ClassId, h0.size ≤ r1 ∧ Arv Z h r1 r2 .byte (9 : Int32) [(.int x1), (.int x2), (.int x3), (.int x4), (.int x5), (.int x1), (.int x6), (.int x7), (.int x8)] (.int 0) ∧ v = some (.ref r1)) := by
  refine CtrN.intro (L0 := #[.val (.ref a1), .val (.int 0), .val (.int 9), .unset, .unset]) (plainFor_of_name pn5) O0 (own_entry rfl) ?_
  intro p e s m below meth c T0 hy hml hret hlk hnm W0
  refine o_iloadN W0 (pc' := 1) (hb hy d30_0) rfl rfl ?_
  refine o_iloadN W0 (pc' := 2) (hb hy d30_1) rfl rfl ?_
  refine o_static W0 (y := (⟨"java/util/Arrays", "checkLength", "(II)V"⟩ : MethodName)) (w164 hw) (w165 hw) (w159 hw) (w166 hw) (by decide) (argsL := [(.int 0), (.int 9)]) (CtrN.back (Wd := 0) W0 (rm81 l Z a0 hw  h0 W0.old ) (w166 hw) (w159 hw) (by decide) (by decide)) (by rw [hml]; rfl) (lenOf pd14 rfl) (S := []) rfl (by exact Nat.le_of_eq rfl) (pc' := 5) (hb hy d30_2) rfl (cells' := 0) (slots' := 0) rfl rfl (by decide) (by decide) (wy := []) (fun _ _ _ q => ⟨q.1, q.2.1⟩) all0 (fun _ _ => trivial) ?_
  intro v1 T1 h1 lo1 W1 K1 q1
  obtain rfl := q1.2.2
  show Gl _ _ _ _ _ _ _ _ []
  refine o_iloadN W1 (pc' := 6) (hb hy d30_5) rfl rfl ?_
  refine o_iloadN W1 (pc' := 7) (hb hy d30_6) rfl rfl ?_
  refine o_isub W1 (v := 9) (pc' := 8) (hb hy d30_7) (by decide) rfl ?_
  refine o_istoreN W1 (L' := #[.val (.ref a1), .val (.int 0), .val (.int 9), .val (.int 9), .unset]) (pc' := 9) (hb hy d30_8) rfl rfl ?_
  refine o_iloadN W1 (pc' := 10) (hb hy d30_9) rfl rfl ?_
  refine o_newP W1 (aty := .byte) (w15 hw) (fun _ _ => trivial) (by decide) (cap := 9) (by decide) (by decide) (pc' := 12) (hb hy d30_10) rfl (cells' := 1) (slots' := 9) rfl rfl (by decide) (by decide) (vs := [(.int 0), (.int 0), (.int 0), (.int 0), (.int 0), (.int 0), (.int 0), (.int 0), (.int 0)]) (dv := (.int 0)) rfl rfl ?_
  intro b2 T2 h2 k2 W2 E2 ge2 gz2 gb2 V2
  refine o_astore W2 (L' := #[.val (.ref a1), .val (.int 0), .val (.int 9), .val (.int 9), .val (.ref b2)]) (pc' := 14) (hb hy d30_12) rfl rfl rfl ?_
  refine o_aloadN W2 (pc' := 15) (hb hy d30_14) rfl rfl rfl ?_
  refine o_iloadN W2 (pc' := 16) (hb hy d30_15) rfl rfl ?_
  refine o_aload W2 (pc' := 18) (hb hy d30_16) rfl rfl rfl ?_
  refine o_iconst W2 (v := 0) (pc' := 19) (hb hy d30_18) rfl rfl ?_
  refine o_aloadN W2 (pc' := 20) (hb hy d30_19) rfl rfl rfl ?_
  have c3 := ((V_a1.keep K1 nin0).ext E2)
  refine o_len W2 c3 (pc' := 21) (hb hy d30_20) rfl ?_
  refine o_iloadN W2 (pc' := 22) (hb hy d30_21) rfl rfl ?_
  refine o_isub W2 (v := 16) (pc' := 23) (hb hy d30_22) (by decide) rfl ?_
  refine o_iloadN W2 (pc' := 24) (hb hy d30_23) rfl rfl ?_
  refine o_static W2 (y := (⟨"java/lang/Math", "min", "(II)I"⟩ : MethodName)) (w167 hw) (w168 hw) (w169 hw) (w170 hw) (by decide) (argsL := [(.int 16), (.int 9)]) (CtrN.back (Wd := 4) W2 (rm82 l Z a0 hw  h2 W2.old ) (w170 hw) (w169 hw) (by decide) (by decide)) (by rw [hml]; rfl) (lenOf pd15 rfl) (S := [(.int 0), (.ref b2), (.int 0), (.ref a1)]) rfl (by exact Nat.le_of_eq rfl) (pc' := 27) (hb hy d30_24) rfl (cells' := 1) (slots' := 9) rfl rfl (by decide) (by decide) (wy := []) (fun _ _ _ q => ⟨q.1, q.2.1⟩) all0 (fun _ _ => trivial) ?_
  intro v4 T4 h4 lo4 W4 K4 q4
  obtain rfl := q4.2.2
  show Gl _ _ _ _ _ _ _ _ [(.int 9), (.int 0), (.ref b2), (.int 0), (.ref a1)]
  have c5 := (c3.keep K4 nin0)
  have c6 := (V2.keep K4 nin0)
  refine o_copy W4 (w171 hw) (w126 hw) (w124 hw) (w125 hw) c5 c6 (us := [(.int x1), (.int x2), (.int x3), (.int x4), (.int x5), (.int x1), (.int x6), (.int x7), (.int x8)]) (Or.inl ⟨rfl, rfl⟩) (by decide) (by decide) (by decide) (by decide) (by decide) rfl (Nat.le_of_ble_eq_true rfl) (vd' := [(.int x1), (.int x2), (.int x3), (.int x4), (.int x5), (.int x1), (.int x6), (.int x7), (.int x8)]) rfl gz2 (Or.inr gb2) (fun _ _ => trivial) (by rw [hml]; rfl) (pc' := 30) (hb hy d30_27) rfl (by decide) 0 (by exact Nat.le_of_eq rfl) (by decide) ?_
  intro T7 h7 lo7 W7 K7 V7
  refine o_aload W7 (pc' := 32) (hb hy d30_30) rfl rfl rfl ?_
  exact o_retA W7 hlk (v := (.ref b2)) hret rfl rfl (hb hy d30_32) (by decide) (by decide) ⟨b2, k2, gb2, V7, rfl⟩
theorem rm84 (l : Launch) (Z : State) (a0 : Array Value) (hw : ∀ d ∈ tables_1, d.before a0 Z = true) (a1 : Addr) (k_a1 : ClassId) (x1 x2 x3 x4 x5 x6 x7 x8 : Int32) (h0 : Heap) (O0 : Old Z Z.heap.size h0) (V_a1 : Arv Z h0 a1 k_a1 .byte (16 : Int32) [(.int x1), (.int x2), (.int x3), (.int x4), (.int x5), (.int x1), (.int x6), (.int x7), (.int x8), (.int 0), (.int 0), (.int 0), (.int 0), (.int 0), (.int 0), (.int 0)] (.int 0)) :
    CtrN l Z (⟨"java/util/Arrays", "copyOfRange", "([BII)[B"⟩ : MethodName) jdk_65_method_132_code 3 (some (.array .byte)) [] (⟨2, 1, 9, 43⟩ : Room) #[(.ref a1), (.int 0), (.int 9)] h0 [] (fun v h => ∃ r1 : Addr, ∃ r2 : ClassId, h0.size ≤ r1 ∧ Arv Z h r1 r2 .byte (9 : Int32) [(.int x1), (.int x2), (.int x3), (.int x4), (.int x5), (.int x1), (.int x6), (.int x7), (.int x8)] (.int 0) ∧ v = some (.ref r1)) := by
  refine CtrN.intro (L0 := #[.val (.ref a1), .val (.int 0), .val (.int 9)]) (plainFor_of_name pn5) O0 (own_entry rfl) ?_
  intro p e s m below meth c T0 hy hml hret hlk hnm W0
  refine o_iloadN W0 (pc' := 1) (hb hy d29_0) rfl rfl ?_
  refine o_ifN W0 (pc' := 4) (hb hy d29_1) (XT.i0_ne_f (by decide)) rfl ?_
  refine o_iloadN W0 (pc' := 5) (hb hy d29_4) rfl rfl ?_
  refine o_aloadN W0 (pc' := 6) (hb hy d29_5) rfl rfl rfl ?_
  refine o_len W0 V_a1 (pc' := 7) (hb hy d29_6) rfl ?_
  refine o_icmpN W0 (pc' := 10) (hb hy d29_7) (XT.ii_eq_f (by decide)) rfl ?_
  refine o_aloadN W0 (pc' := 11) (hb hy d29_10) rfl rfl rfl ?_
  refine o_iloadN W0 (pc' := 12) (hb hy d29_11) rfl rfl ?_
  refine o_iloadN W0 (pc' := 13) (hb hy d29_12) rfl rfl ?_
  refine o_static W0 (y := (⟨"java/util/Arrays", "copyOfRangeByte", "([BII)[B"⟩ : MethodName)) (w161 hw) (w162 hw) (w159 hw) (w163 hw) (by decide) (argsL := [(.ref a1), (.int 0), (.int 9)]) (CtrN.back (Wd := 0) W0 (rm83 l Z a0 hw a1 k_a1 x1 x2 x3 x4 x5 x6 x7 x8 h0 W0.old V_a1) (w163 hw) (w159 hw) (by decide) (by decide)) (by rw [hml]; rfl) (lenOf pd16 rfl) (S := []) rfl (by exact Nat.le_of_eq rfl) (pc' := 16) (hb hy d29_13) rfl (cells' := 1) (slots' := 9) rfl rfl (by decide) (by decide) (wy := []) (fun _ _ _ q => ⟨q.1, q.2.1⟩) all0 (fun _ _ => trivial) ?_
  intro v1 T1 h1 lo1 W1 K1 q1
  obtain ⟨r1_1, r2_1, P1_0, P1_1, rfl⟩ := q1.2.2
  show Gl _ _ _ _ _ _ _ _ [(.ref r1_1)]
  exact o_retA W1 hlk (v := (.ref r1_1)) hret rfl rfl (hb hy d29_16) (by decide) (by decide) ⟨r1_1, r2_1, (Nat.le_trans W0.keep.1 P1_0), P1_1, rfl⟩
theorem rm85 (l : Launch) (Z : State) (a0 : Array Value) (hw : ∀ d ∈ tables_1, d.before a0 Z = true) (gCS : Int32) (a1 a2 a3 : Addr) (k_a3 : ClassId) (x1 x2 x3 x4 x5 x6 x7 x8 : Int32) (h0 : Heap) (O0 : Old Z Z.heap.size h0) (E_a2 : Exa Z h0 a2 "java/lang/StringBuilder") (F_a2_value : Fld Z h0 a2 "java/lang/AbstractStringBuilder" "value" "[B" (.ref a3)) (F_a2_count : Fld Z h0 a2 "java/lang/AbstractStringBuilder" "count" "I" (.int 9)) (SgCS : Sta Z Z.heap "java/lang/String" "COMPACT_STRINGS" "Z" (.int gCS)) (NgCS : ¬ (gCS = (0 : Int32))) (F_a2_coder : Fld Z h0 a2 "java/lang/AbstractStringBuilder" "coder" "B" (.int 0)) (E_a1 : Exa Z h0 a1 "java/lang/String") (F_a1_coder : Fld Z h0 a1 "java/lang/String" "coder" "B" (.int 0)) (g_a1 : Z.heap.size ≤ a1) (V_a3 : Arv Z h0 a3 k_a3 .byte (16 : Int32) [(.int x1), (.int x2), (.int x3), (.int x4), (.int x5), (.int x1), (.int x6), (.int x7), (.int x8), (.int 0), (.int 0), (.int 0), (.int 0), (.int 0), (.int 0), (.int 0)] (.int 0)) (F_a1_value : Fld Z h0 a1 "java/lang/String" "value" "[B" .null) :
    CtrN l Z (⟨"java/lang/String", "<init>", "(Ljava/lang/AbstractStringBuilder;Ljava/lang/Void;)V"⟩ : MethodName) jdk_42_method_150_code 5 none [] (⟨3, 1, 9, 58⟩ : Room) #[(.ref a1), (.ref a2), .null] h0 [a1] (fun v h => ∃ r1 : Addr, ∃ r2 : ClassId, h0.size ≤ r1 ∧ Fld Z h a1 "java/lang/String" "coder" "B" (.int 0) ∧ Fld Z h a1 "java/lang/String" "value" "[B" (.ref r1) ∧ Arv Z h r1 r2 .byte (9 : Int32) [(.int x1), (.int x2), (.int x3), (.int x4), (.int x5), (.int x1), (.int x6), (.int x7), (.int x8)] (.int 0) ∧ v = none) := by
  refine CtrN.intro (L0 := #[.val (.ref a1), .val (.ref a2), .val .null, .unset, .unset]) (plainFor_of_name pn4) O0 (own_entry rfl) ?_
  intro p e s m below meth c T0 hy hml hret hlk hnm W0
  refine o_aloadN W0 (pc' := 1) (hb hy d24_0) rfl rfl rfl ?_
  refine o_initO W0 (w11 hw) (w12 hw) (w13 hw) (by rw [hml]; rfl) (pc' := 4) (hb hy d24_1) rfl (by decide) 0 (by exact Nat.le_of_eq rfl) (by decide) ?_
  intro T1 W1
  refine o_aloadN W1 (pc' := 5) (hb hy d24_4) rfl rfl rfl ?_
  refine o_virtual W1 (y := (⟨"java/lang/AbstractStringBuilder", "getValue", "()[B"⟩ : MethodName)) (z := (⟨"java/lang/AbstractStringBuilder", "getValue", "()[B"⟩ : MethodName)) (w139 hw) (w140 hw) (o_nf W1 rfl (w142 hw)) (w142 hw) (w141 hw) (by decide) E_a2 (argsL := []) (CtrN.back (Wd := 0) W1 (rm21 l Z a0 hw a2 a3 h0 W1.old F_a2_value) (w143 hw) (w71 hw) (by decide) (by decide)) (by rw [hml]; rfl) (lenOf pd13 rfl) (S := []) rfl (by exact Nat.le_of_eq rfl) (pc' := 8) (hb hy d24_5) rfl (cells' := 0) (slots' := 0) rfl rfl (by decide) (by decide) (wy := []) (fun _ _ _ q => ⟨q.1, q.2.1⟩) all0 (fun _ _ => trivial) ?_
  intro v2 T2 h2 lo2 W2 K2 q2
  obtain rfl := q2.2.2
  show Gl _ _ _ _ _ _ _ _ [(.ref a3)]
  refine o_astoreN W2 (L' := #[.val (.ref a1), .val (.ref a2), .val .null, .val (.ref a3), .unset]) (pc' := 9) (hb hy d24_8) rfl rfl rfl ?_
  refine o_aloadN W2 (pc' := 10) (hb hy d24_9) rfl rfl rfl ?_
  have c3 := (F_a2_count.keep K2 nin0)
  have c4 := (E_a2.keep K2)
  refine o_virtual W2 (y := (⟨"java/lang/AbstractStringBuilder", "length", "()I"⟩ : MethodName)) (z := (⟨"java/lang/StringBuilder", "length", "()I"⟩ : MethodName)) (w144 hw) (w145 hw) (o_nf2 W2 (y2 := (⟨"java/lang/AbstractStringBuilder", "ensureCapacityInternal", "(I)V"⟩ : MethodName)) rfl (w103 hw) (w105 hw)) (w147 hw) (w148 hw) (by decide) c4 (argsL := []) (CtrN.back (Wd := 0) W2 (rm80 l Z a0 hw a2 h2 W2.old c3 c4) (w149 hw) (w63 hw) (by decide) (by decide)) (by rw [hml]; rfl) (lenOf pd8 rfl) (S := []) rfl (by exact Nat.le_of_eq rfl) (pc' := 13) (hb hy d24_10) rfl (cells' := 0) (slots' := 0) rfl rfl (by decide) (by decide) (wy := []) (fun _ _ _ q => ⟨q.1, q.2.1⟩) all0 (fun _ _ => trivial) ?_
  intro v5 T5 h5 lo5 W5 K5 q5
  obtain rfl := q5.2.2
  show Gl _ _ _ _ _ _ _ _ [(.int 9)]
  refine o_istore W5 (L' := #[.val (.ref a1), .val (.ref a2), .val .null, .val (.ref a3), .val (.int 9)]) (pc' := 15) (hb hy d24_13) rfl rfl ?_
  refine o_aloadN W5 (pc' := 16) (hb hy d24_15) rfl rfl rfl ?_
  have c6 := ((F_a2_coder.keep K2 nin0).keep K5 nin0)
  have c7 := (c4.keep K5)
  refine o_virtual W5 (y := (⟨"java/lang/AbstractStringBuilder", "isLatin1", "()Z"⟩ : MethodName)) (z := (⟨"java/lang/AbstractStringBuilder", "isLatin1", "()Z"⟩ : MethodName)) (w152 hw) (w153 hw) (o_nf W5 rfl (w155 hw)) (w155 hw) (w154 hw) (by decide) c7 (argsL := []) (CtrN.back (Wd := 0) W5 (rm24 l Z a0 hw gCS a2 h5 W5.old SgCS NgCS c6) (w156 hw) (w71 hw) (by decide) (by decide)) (by rw [hml]; rfl) (lenOf pd4 rfl) (S := []) rfl (by exact Nat.le_of_eq rfl) (pc' := 19) (hb hy d24_16) rfl (cells' := 0) (slots' := 0) rfl rfl (by decide) (by decide) (wy := []) (fun _ _ _ q => ⟨q.1, q.2.1⟩) all0 (fun _ _ => trivial) ?_
  intro v8 T8 h8 lo8 W8 K8 q8
  obtain rfl := q8.2.2
  show Gl _ _ _ _ _ _ _ _ [(.int 1)]
  refine o_ifN W8 (pc' := 22) (hb hy d24_19) (XT.i0_eq_f (by decide)) rfl ?_
  refine o_aloadN W8 (pc' := 23) (hb hy d24_22) rfl rfl rfl ?_
  refine o_iconst W8 (v := 0) (pc' := 24) (hb hy d24_23) rfl rfl ?_
  have c9 := (((E_a1.keep K2).keep K5).keep K8)
  have c10 := (((F_a1_coder.keep K2 nin0).keep K5 nin0).keep K8 nin0)
  refine o_putF W8 (w21 hw) Via.refl c10 c9 (Or.inr ⟨(w17 hw), rfl, hnm⟩) (w2 hw) (ty := .byte) (v' := (.int 0)) (by decide) rfl (by decide) g_a1 (Or.inl (List.mem_of_getElem? (i := 0) rfl)) (fun _ _ => trivial) (pc' := 27) (hb hy d24_24) rfl ?_
  intro T11 h11 lo11 W11 R11
  have F11 := c10.same R11
  refine o_aloadN W11 (pc' := 28) (hb hy d24_27) rfl rfl rfl ?_
  refine o_aloadN W11 (pc' := 29) (hb hy d24_28) rfl rfl rfl ?_
  refine o_iconst W11 (v := 0) (pc' := 30) (hb hy d24_29) rfl rfl ?_
  refine o_iload W11 (pc' := 32) (hb hy d24_30) rfl rfl ?_
  have c12 := (c9.wr R11)
  have c13 := (((V_a3.keep K2 nin0).keep K5 nin0).keep K8 nin0)
  have c14 := ((((V_a3.keep K2 nin0).keep K5 nin0).keep K8 nin0).other R11 (Ne.symm (Exa.neArv c9 c13 (w2 hw))))
  refine o_static W11 (y := (⟨"java/util/Arrays", "copyOfRange", "([BII)[B"⟩ : MethodName)) (w157 hw) (w158 hw) (w159 hw) (w160 hw) (by decide) (argsL := [(.ref a3), (.int 0), (.int 9)]) (CtrN.back (Wd := 1) W11 (rm84 l Z a0 hw a3 k_a3 x1 x2 x3 x4 x5 x6 x7 x8 h11 W11.old c14) (w160 hw) (w159 hw) (by decide) (by decide)) (by rw [hml]; rfl) (lenOf pd16 rfl) (S := [(.ref a1)]) rfl (by exact Nat.le_of_eq rfl) (pc' := 35) (hb hy d24_32) rfl (cells' := 1) (slots' := 9) rfl rfl (by decide) (by decide) (wy := []) (fun _ _ _ q => ⟨q.1, q.2.1⟩) all0 (fun _ _ => trivial) ?_
  intro v15 T15 h15 lo15 W15 K15 q15
  obtain ⟨r1_15, r2_15, P15_0, P15_1, rfl⟩ := q15.2.2
  show Gl _ _ _ _ _ _ _ _ [(.ref r1_15), (.ref a1)]
  have c16 := (c12.keep K15)
  have c17 := (((((F_a1_value.keep K2 nin0).keep K5 nin0).keep K8 nin0).other R11 (Or.inr (slot_ne (Or.inr (w16 hw)) (Or.inr (w17 hw)) (by decide) (t := (.array .byte)) (t' := .byte) (by decide) (by decide)))).keep K15 nin0)
  refine o_putF W15 (w20 hw) Via.refl c17 c16 (Or.inr ⟨(w16 hw), rfl, hnm⟩) (w2 hw) (ty := (.array .byte)) (v' := (.ref r1_15)) (by decide) rfl rfl g_a1 (Or.inl (List.mem_of_getElem? (i := 0) rfl)) (fun _ _ => trivial) (pc' := 38) (hb hy d24_35) rfl ?_
  intro T18 h18 lo18 W18 R18
  have F18 := c17.same R18
  refine o_goto W18 (pc' := 97) (hb hy d24_38) (by decide) rfl ?_
  have c19 := ((F11.keep K15 nin0).other R18 (Or.inr (slot_ne (Or.inr (w17 hw)) (Or.inr (w16 hw)) (by decide) (t := .byte) (t' := (.array .byte)) (by decide) (by decide))))
  have c20 := (c16.wr R18)
  have c21 := (P15_1.other R18 (own_ne' c12.lt P15_0))
  exact o_ret0 W18 hlk hret (hb hy d24_97) (by decide) (by decide) ⟨r1_15, r2_15, (Nat.le_trans W11.keep.1 P15_0), c19, F18, c21, rfl⟩
theorem rm86 (l : Launch) (Z : State) (a0 : Array Value) (hw : ∀ d ∈ tables_1, d.before a0 Z = true) (gCS : Int32) (a1 a2 a3 : Addr) (k_a3 : ClassId) (x1 x2 x3 x4 x5 x6 x7 x8 : Int32) (h0 : Heap) (O0 : Old Z Z.heap.size h0) (E_a2 : Exa Z h0 a2 "java/lang/StringBuilder") (F_a2_value : Fld Z h0 a2 "java/lang/AbstractStringBuilder" "value" "[B" (.ref a3)) (F_a2_count : Fld Z h0 a2 "java/lang/AbstractStringBuilder" "count" "I" (.int 9)) (SgCS : Sta Z Z.heap "java/lang/String" "COMPACT_STRINGS" "Z" (.int gCS)) (NgCS : ¬ (gCS = (0 : Int32))) (F_a2_coder : Fld Z h0 a2 "java/lang/AbstractStringBuilder" "coder" "B" (.int 0)) (E_a1 : Exa Z h0 a1 "java/lang/String") (F_a1_coder : Fld Z h0 a1 "java/lang/String" "coder" "B" (.int 0)) (V_a3 : Arv Z h0 a3 k_a3 .byte (16 : Int32) [(.int x1), (.int x2), (.int x3), (.int x4), (.int x5), (.int x1), (.int x6), (.int x7), (.int x8), (.int 0), (.int 0), (.int 0), (.int 0), (.int 0), (.int 0), (.int 0)] (.int 0)) (F_a1_value : Fld Z h0 a1 "java/lang/String" "value" "[B" .null) (g_a1 : Z.heap.size ≤ a1) :
    CtrN l Z (⟨"java/lang/String", "<init>", "(Ljava/lang/StringBuilder;)V"⟩ : MethodName) jdk_42_method_53_code 2 none [] (⟨4, 1, 9, 74⟩ : Room) #[(.ref a1), (.ref a2)] h0 [a1] (fun v h => ∃ r1 : Addr, ∃ r2 : ClassId, h0.size ≤ r1 ∧ Fld Z h a1 "java/lang/String" "coder" "B" (.int 0) ∧ Fld Z h a1 "java/lang/String" "value" "[B" (.ref r1) ∧ Arv Z h r1 r2 .byte (9 : Int32) [(.int x1), (.int x2), (.int x3), (.int x4), (.int x5), (.int x1), (.int x6), (.int x7), (.int x8)] (.int 0) ∧ v = none) := by
  refine CtrN.intro (L0 := #[.val (.ref a1), .val (.ref a2)]) (plainFor_of_name pn4) O0 (own_entry rfl) ?_
  intro p e s m below meth c T0 hy hml hret hlk hnm W0
  refine o_aloadN W0 (pc' := 1) (hb hy d23_0) rfl rfl rfl ?_
  refine o_aloadN W0 (pc' := 2) (hb hy d23_1) rfl rfl rfl ?_
  refine o_aconstNull W0 (pc' := 3) (hb hy d23_2) rfl ?_
  refine o_special W0 (y := (⟨"java/lang/String", "<init>", "(Ljava/lang/AbstractStringBuilder;Ljava/lang/Void;)V"⟩ : MethodName)) rfl (w136 hw) (w137 hw) (w138 hw) (by decide) (a := a1) (argsL := [(.ref a2), .null]) (CtrN.back (Wd := 0) W0 (rm85 l Z a0 hw gCS a1 a2 a3 k_a3 x1 x2 x3 x4 x5 x6 x7 x8 h0 W0.old E_a2 F_a2_value F_a2_count SgCS NgCS F_a2_coder E_a1 F_a1_coder g_a1 V_a3 F_a1_value) (w138 hw) (w3 hw) (by decide) (by decide)) (by rw [hml]; rfl) (lenOf pd17 rfl) (S := []) rfl (by exact Nat.le_of_eq rfl) (pc' := 6) (hb hy d23_3) rfl (cells' := 1) (slots' := 9) rfl rfl (by decide) (by decide) (wy := [a1]) (fun _ _ _ q => ⟨q.1, q.2.1⟩) (allS ⟨g_a1, (Or.inl (List.mem_of_getElem? (i := 0) rfl))⟩ all0) (fun _ _ => trivial) ?_
  intro v1 T1 h1 lo1 W1 K1 q1
  obtain ⟨r1_1, r2_1, P1_0, P1_1, P1_2, P1_3, rfl⟩ := q1.2.2
  show Gl _ _ _ _ _ _ _ _ []
  have c2 := (E_a1.keep K1)
  exact o_ret0 W1 hlk hret (hb hy d23_6) (by decide) (by decide) ⟨r1_1, r2_1, (Nat.le_trans W0.keep.1 P1_0), P1_1, P1_2, P1_3, rfl⟩
theorem rm87 (l : Launch) (Z : State) (a0 : Array Value) (hw : ∀ d ∈ tables_1, d.before a0 Z = true) (gCS : Int32) (a1 a2 : Addr) (k_a2 : ClassId) (x1 x2 x3 x4 x5 x6 x7 x8 : Int32) (h0 : Heap) (O0 : Old Z Z.heap.size h0) (E_a1 : Exa Z h0 a1 "java/lang/StringBuilder") (F_a1_value : Fld Z h0 a1 "java/lang/AbstractStringBuilder" "value" "[B" (.ref a2)) (F_a1_count : Fld Z h0 a1 "java/lang/AbstractStringBuilder" "count" "I" (.int 9)) (SgCS : Sta Z Z.heap "java/lang/String" "COMPACT_STRINGS" "Z" (.int gCS)) (NgCS : ¬ (gCS = (0 : Int32))) (F_a1_coder : Fld Z h0 a1 "java/lang/AbstractStringBuilder" "coder" "B" (.int 0)) (V_a2 : Arv Z h0 a2 k_a2 .byte (16 : Int32) [(.int x1), (.int x2), (.int x3), (.int x4), (.int x5), (.int x1), (.int x6), (.int x7), (.int x8), (.int 0), (.int 0), (.int 0), (.int 0), (.int 0), (.int 0), (.int 0)] (.int 0)) :
    CtrN l Z (⟨"java/lang/StringBuilder", "toString", "()Ljava/lang/String;"⟩ : MethodName) jdk_67_method_42_code 1 (some (.object "java/lang/String")) [] (⟨5, 2, 13, 88⟩ : Room) #[(.ref a1)] h0 [] (fun v h => ∃ r1 : Addr, ∃ r2 : Addr, ∃ r3 : ClassId, h0.size ≤ r1 ∧ h0.size ≤ r2 ∧ Exa Z h r1 "java/lang/String" ∧ Fld Z h r1 "java/lang/String" "value" "[B" (.ref r2) ∧ Fld Z h r1 "java/lang/String" "coder" "B" (.int 0) ∧ Arv Z h r2 r3 .byte (9 : Int32) [(.int x1), (.int x2), (.int x3), (.int x4), (.int x5), (.int x1), (.int x6), (.int x7), (.int x8)] (.int 0) ∧ v = some (.ref r1)) := by
  refine CtrN.intro (L0 := #[.val (.ref a1)]) (plainFor_of_name pn3) O0 (own_entry rfl) ?_
  intro p e s m below meth c T0 hy hml hret hlk hnm W0
  refine o_new W0 (w132 hw) (w2 hw) (w3 hw) (fun _ _ => trivial) (pc' := 3) (hb hy d22_0) rfl (cells' := 1) (slots' := 4) rfl rfl (by decide) (by decide) ?_
  intro b1 T1 h1 W1 E1 ge1 gz1 gb1 A1 D1
  have Fb1_value : Fld Z h1 b1 "java/lang/String" "value" "[B" .null := D1 (Or.inr (w16 hw)) (ty := (.array .byte)) (by decide)
  have Fb1_coder : Fld Z h1 b1 "java/lang/String" "coder" "B" (.int 0) := D1 (Or.inr (w17 hw)) (ty := .byte) (by decide)
  refine o_dup W1 (pc' := 4) (hb hy d22_3) rfl rfl ?_
  refine o_aloadN W1 (pc' := 5) (hb hy d22_4) rfl rfl rfl ?_
  have c2 := (E_a1.ext E1)
  have c3 := (F_a1_value.ext E1)
  have c4 := (F_a1_count.ext E1)
  have c5 := (F_a1_coder.ext E1)
  have c6 := (V_a2.ext E1)
  refine o_special W1 (y := (⟨"java/lang/String", "<init>", "(Ljava/lang/StringBuilder;)V"⟩ : MethodName)) rfl (w133 hw) (w134 hw) (w135 hw) (by decide) (a := b1) (argsL := [(.ref a1)]) (CtrN.back (Wd := 1) W1 (rm86 l Z a0 hw gCS b1 a1 a2 k_a2 x1 x2 x3 x4 x5 x6 x7 x8 h1 W1.old c2 c3 c4 SgCS NgCS c5 A1 Fb1_coder c6 Fb1_value gz1) (w135 hw) (w3 hw) (by decide) (by decide)) (by rw [hml]; rfl) (lenOf pd18 rfl) (S := [(.ref b1)]) rfl (by exact Nat.le_of_eq rfl) (pc' := 8) (hb hy d22_5) rfl (cells' := 2) (slots' := 13) rfl rfl (by decide) (by decide) (wy := [b1]) (fun _ _ _ q => ⟨q.1, q.2.1⟩) (allS ⟨gz1, (Or.inr gb1)⟩ all0) (fun _ _ => trivial) ?_
  intro v7 T7 h7 lo7 W7 K7 q7
  obtain ⟨r1_7, r2_7, P7_0, P7_1, P7_2, P7_3, rfl⟩ := q7.2.2
  show Gl _ _ _ _ _ _ _ _ [(.ref b1)]
  have c8 := (A1.keep K7)
  exact o_retA W7 hlk (v := (.ref b1)) hret rfl rfl (hb hy d22_8) (by decide) (by decide) ⟨b1, r1_7, r2_7, gb1, (Nat.le_trans W1.keep.1 P7_0), c8, P7_2, P7_1, P7_3, rfl⟩
theorem rm88 (l : Launch) (Z : State) (a0 : Array Value) (hw : ∀ d ∈ tables_1, d.before a0 Z = true) (gCS : Int32) (a1 a2 a3 : Addr) (k_a3 : ClassId) (h0 : Heap) (O0 : Old Z Z.heap.size h0) (F_a1_reason : Fld Z h0 a1 "com/example/countersign/countersign/Verdict" "reason" "Ljava/lang/String;" (.ref a2)) (SgCS : Sta Z Z.heap "java/lang/String" "COMPACT_STRINGS" "Z" (.int gCS)) (NgCS : ¬ (gCS = (0 : Int32))) (E_a2 : Exa Z h0 a2 "java/lang/String") (F_a2_value : Fld Z h0 a2 "java/lang/String" "value" "[B" (.ref a3)) (V_a3 : Arv Z h0 a3 k_a3 .byte (0 : Int32) [] (.int 0)) (F_a2_coder : Fld Z h0 a2 "java/lang/String" "coder" "B" (.int 0)) :
    CtrW l Z consts_1 (⟨"com/example/countersign/countersign/Verdict", "toString", "()Ljava/lang/String;"⟩ : MethodName) prog_11_method_6_code 1 (some (.object "java/lang/String")) [] (⟨6, 6, 73, 100⟩ : Room) #[(.ref a1)] h0 [] (fun v h => ∃ r1 : Addr, ∃ r2 : Addr, ∃ r3 : ClassId, h0.size ≤ r1 ∧ h0.size ≤ r2 ∧ Exa Z h r1 "java/lang/String" ∧ Fld Z h r1 "java/lang/String" "value" "[B" (.ref r2) ∧ Fld Z h r1 "java/lang/String" "coder" "B" (.int 0) ∧ Arv Z h r2 r3 .byte (9 : Int32) [(.int (StrChars.lo8 (105 : Int32))), (.int (StrChars.lo8 (110 : Int32))), (.int (StrChars.lo8 (118 : Int32))), (.int (StrChars.lo8 (97 : Int32))), (.int (StrChars.lo8 (108 : Int32))), (.int (StrChars.lo8 (105 : Int32))), (.int (StrChars.lo8 (100 : Int32))), (.int (StrChars.lo8 (58 : Int32))), (.int (StrChars.lo8 (32 : Int32)))] (.int 0) ∧ v = some (.ref r1)) := by
  refine CtrW.intro (L0 := #[.val (.ref a1)]) (plainFor_of_name pn1) O0 (own_entry rfl) ?_
  intro p e s m below meth c T0 V0 hy hml hret hlk hnm W0
  refine o_aloadN W0 (pc' := 1) (hb hy d11_0) rfl rfl rfl ?_
  refine o_getF W0 (w49 hw) Via.refl F_a1_reason (pc' := 4) (hb hy d11_1) rfl ?_
  intro T1 W1
  refine o_ifnonnullY W1 (pc' := 12) (hb hy d11_4) (by decide) rfl ?_
  refine o_new W1 (w61 hw) (w62 hw) (w63 hw) (fun _ E => IW.ext E W1.inv) (pc' := 15) (hb hy d11_12) rfl (cells' := 1) (slots' := 4) rfl rfl (by decide) (by decide) ?_
  intro b2 T2 h2 W2 E2 ge2 gz2 gb2 A2 D2
  have Fb2_value : Fld Z h2 b2 "java/lang/AbstractStringBuilder" "value" "[B" .null := D2 (Or.inl (w76 hw)) (ty := (.array .byte)) (by decide)
  have Fb2_coder : Fld Z h2 b2 "java/lang/AbstractStringBuilder" "coder" "B" (.int 0) := D2 (Or.inl (w78 hw)) (ty := .byte) (by decide)
  have Fb2_count : Fld Z h2 b2 "java/lang/AbstractStringBuilder" "count" "I" (.int 0) := D2 (Or.inl (w101 hw)) (ty := .int) (by decide)
  refine o_dup W2 (pc' := 16) (hb hy d11_15) rfl rfl ?_
  refine o_special W2 (y := (⟨"java/lang/StringBuilder", "<init>", "()V"⟩ : MethodName)) rfl (w64 hw) (w65 hw) (w66 hw) (by decide) (a := b2) (argsL := []) (CtrN.back (Wd := 1) W2 (rm6 l Z a0 hw gCS b2 h2 W2.old SgCS NgCS A2 Fb2_value Fb2_coder Fb2_count gz2) (w66 hw) (w63 hw) (by decide) (by decide)) (by rw [hml]; rfl) (lenOf pd6 rfl) (S := [(.ref b2)]) rfl (by exact Nat.le_of_eq rfl) (pc' := 19) (hb hy d11_16) rfl (cells' := 2) (slots' := 20) rfl rfl (by decide) (by decide) (wy := [b2]) (fun _ _ _ q => ⟨q.1, q.2.1⟩) (allS ⟨gz2, (Or.inr gb2)⟩ all0) (fun _ K => IW.keep K (sfS (Safe.exa W2.al A2 (by decide) (by decide)) sf0) W2.inv) ?_
  intro v3 T3 h3 lo3 W3 K3 q3
  obtain ⟨r1_3, r2_3, P3_0, P3_1, P3_2, P3_3, P3_4, rfl⟩ := q3.2.2
  show Gl _ _ _ _ _ _ _ _ [(.ref b2)]
  refine o_ldcR W3 (w79 hw) (own_wS hw) (own_EL hw) (by simp [consts_1]) (pc' := 21) (hb hy d11_19) rfl (n := 36) (by decide) (by decide) (cells' := 4) (slots' := 60) rfl rfl (by decide) (by decide) (vs := [(.int (StrChars.lo8 (105 : Int32))), (.int (StrChars.lo8 (110 : Int32))), (.int (StrChars.lo8 (118 : Int32))), (.int (StrChars.lo8 (97 : Int32))), (.int (StrChars.lo8 (108 : Int32))), (.int (StrChars.lo8 (105 : Int32))), (.int (StrChars.lo8 (100 : Int32))), (.int (StrChars.lo8 (58 : Int32))), (.int (StrChars.lo8 (32 : Int32)))]) (z := (9 : Int32)) ⟨by decide, by decide⟩ (by decide) (by decide) ?_
  intro s4 T4 h4 V4 t4 k4 W4 E4 C4 X4 Fc4 Fv4 A4 ns4
  have c5 := (P3_3.ext E4)
  have c6 := (P3_1.ext E4)
  have c7 := (P3_4.ext E4)
  have c8 := (P3_2.ext E4)
  have c9 := ((A2.keep K3).ext E4)
  refine o_virtual W4 (y := (⟨"java/lang/StringBuilder", "append", "(Ljava/lang/String;)Ljava/lang/StringBuilder;"⟩ : MethodName)) (z := (⟨"java/lang/StringBuilder", "append", "(Ljava/lang/String;)Ljava/lang/StringBuilder;"⟩ : MethodName)) (w80 hw) (w81 hw) (o_nf W4 rfl (w83 hw)) (w83 hw) (w82 hw) (by decide) c9 (argsL := [(.ref s4)]) (CtrN.back (Wd := 0) W4 (rm14 l Z a0 hw gCS b2 s4 t4 k4 r1_3 r2_3 h4 W4.old X4 Fv4 A4 SgCS NgCS Fc4 c5 c9 c6 c7 c8 (Nat.le_trans W2.zs P3_0) gz2) (w84 hw) (w63 hw) (by decide) (by decide)) (by rw [hml]; rfl) (lenOf pd12 rfl) (S := []) rfl (by exact Nat.le_of_eq rfl) (pc' := 24) (hb hy d11_21) rfl (cells' := 4) (slots' := 60) rfl rfl (by decide) (by decide) (wy := [b2, r1_3]) (fun _ _ _ q => ⟨q.1, q.2.1⟩) (allS ⟨gz2, (Or.inr gb2)⟩ (allS ⟨(Nat.le_trans W2.zs P3_0), (Or.inr (Nat.le_trans W2.keep.1 P3_0))⟩ all0)) (fun _ K => IW.keep K (sfS (Safe.exa W4.al c9 (by decide) (by decide)) (sfS (own_safeB W4.2.2.2.1 (n := 16) (by decide) (own_EL16 hw) c7) sf0)) W4.inv) ?_
  intro v10 T10 h10 lo10 W10 K10 q10
  obtain ⟨P10_0, P10_1, P10_2, P10_3, rfl⟩ := q10.2.2
  show Gl _ _ _ _ _ _ _ _ [(.ref b2)]
  refine o_aloadN W10 (pc' := 25) (hb hy d11_24) rfl rfl rfl ?_
  have c11 := (F_a1_reason.ext E2)
  have c12 := ((((F_a1_reason.ext E2).keep K3 (ninS (own_ne F_a1_reason.lt ge2) nin0)).ext E4).keep K10 (ninS (own_ne F_a1_reason.lt ge2) (ninS (own_ne c11.lt P3_0) nin0)))
  refine o_getF W10 (w49 hw) Via.refl c12 (pc' := 28) (hb hy d11_25) rfl ?_
  intro T13 W13
  have c14 := ((((E_a2.ext E2).keep K3).ext E4).keep K10)
  have c15 := (E_a2.ext E2)
  have c16 := ((((F_a2_value.ext E2).keep K3 (ninS (own_ne E_a2.lt ge2) nin0)).ext E4).keep K10 (ninS (own_ne E_a2.lt ge2) (ninS (own_ne c15.lt P3_0) nin0)))
  have c17 := (V_a3.ext E2)
  have c18 := ((((V_a3.ext E2).keep K3 (ninS (own_ne V_a3.lt ge2) nin0)).ext E4).keep K10 (ninS (own_ne V_a3.lt ge2) (ninS (own_ne c17.lt P3_0) nin0)))
  have c19 := ((((F_a2_coder.ext E2).keep K3 (ninS (own_ne E_a2.lt ge2) nin0)).ext E4).keep K10 (ninS (own_ne E_a2.lt ge2) (ninS (own_ne c15.lt P3_0) nin0)))
  have c20 := (c9.keep K10)
  refine o_virtual W13 (y := (⟨"java/lang/StringBuilder", "append", "(Ljava/lang/String;)Ljava/lang/StringBuilder;"⟩ : MethodName)) (z := (⟨"java/lang/StringBuilder", "append", "(Ljava/lang/String;)Ljava/lang/StringBuilder;"⟩ : MethodName)) (w80 hw) (w81 hw) (o_nf W13 rfl (w83 hw)) (w83 hw) (w82 hw) (by decide) c20 (argsL := [(.ref a2)]) (CtrN.back (Wd := 0) W13 (rm78 l Z a0 hw gCS b2 a2 a3 k_a3 r1_3 r2_3 (StrChars.lo8 (105 : Int32)) (StrChars.lo8 (110 : Int32)) (StrChars.lo8 (118 : Int32)) (StrChars.lo8 (97 : Int32)) (StrChars.lo8 (108 : Int32)) (StrChars.lo8 (100 : Int32)) (StrChars.lo8 (58 : Int32)) (StrChars.lo8 (32 : Int32)) h10 W13.old c14 c16 c18 SgCS NgCS c19 P10_0 c20 P10_1 P10_2 P10_3 (Nat.le_trans W2.zs P3_0) gz2) (w84 hw) (w63 hw) (by decide) (by decide)) (by rw [hml]; rfl) (lenOf pd12 rfl) (S := []) rfl (by exact Nat.le_of_eq rfl) (pc' := 31) (hb hy d11_28) rfl (cells' := 4) (slots' := 60) rfl rfl (by decide) (by decide) (wy := [b2, r1_3]) (fun _ _ _ q => ⟨q.1, q.2.1⟩) (allS ⟨gz2, (Or.inr gb2)⟩ (allS ⟨(Nat.le_trans W2.zs P3_0), (Or.inr (Nat.le_trans W2.keep.1 P3_0))⟩ all0)) (fun _ K => IW.keep K (sfS (Safe.exa W13.al c20 (by decide) (by decide)) (sfS (own_safeB W13.2.2.2.1 (n := 16) (by decide) (own_EL16 hw) P10_2) sf0)) W13.inv) ?_
  intro v21 T21 h21 lo21 W21 K21 q21
  obtain ⟨P21_0, P21_1, P21_2, P21_3, rfl⟩ := q21.2.2
  show Gl _ _ _ _ _ _ _ _ [(.ref b2)]
  have c22 := (c20.keep K21)
  refine o_virtual W21 (y := (⟨"java/lang/StringBuilder", "toString", "()Ljava/lang/String;"⟩ : MethodName)) (z := (⟨"java/lang/StringBuilder", "toString", "()Ljava/lang/String;"⟩ : MethodName)) (w127 hw) (w128 hw) (o_nf W21 rfl (w130 hw)) (w130 hw) (w129 hw) (by decide) c22 (argsL := []) (CtrN.back (Wd := 0) W21 (rm87 l Z a0 hw gCS b2 r1_3 r2_3 (StrChars.lo8 (105 : Int32)) (StrChars.lo8 (110 : Int32)) (StrChars.lo8 (118 : Int32)) (StrChars.lo8 (97 : Int32)) (StrChars.lo8 (108 : Int32)) (StrChars.lo8 (100 : Int32)) (StrChars.lo8 (58 : Int32)) (StrChars.lo8 (32 : Int32)) h21 W21.old c22 P21_1 P21_0 SgCS NgCS P21_3 P21_2) (w131 hw) (w63 hw) (by decide) (by decide)) (by rw [hml]; rfl) (lenOf pd19 rfl) (S := []) rfl (by exact Nat.le_of_eq rfl) (pc' := 34) (hb hy d11_31) rfl (cells' := 6) (slots' := 73) rfl rfl (by decide) (by decide) (wy := []) (fun _ _ _ q => ⟨q.1, q.2.1⟩) all0 (fun _ K => IW.keep K sf0 W21.inv) ?_
  intro v23 T23 h23 lo23 W23 K23 q23
  obtain ⟨r1_23, r2_23, r3_23, P23_0, P23_1, P23_2, P23_3, P23_4, P23_5, rfl⟩ := q23.2.2
  show Gl _ _ _ _ _ _ _ _ [(.ref r1_23)]
  exact o_retAW W23 (own_EL hw) hlk (v := (.ref r1_23)) hret rfl rfl (hb hy d11_34) (by decide) (by decide) ⟨r1_23, r2_23, r3_23, (Nat.le_trans W21.keep.1 P23_0), (Nat.le_trans W21.keep.1 P23_1), P23_2, P23_3, P23_4, P23_5, rfl⟩
theorem rm89 (l : Launch) (Z : State) (a0 : Array Value) (hw : ∀ d ∈ tables_1, d.before a0 Z = true) (a1 a2 : Addr) (k_a1 : ClassId) (x1 x2 x3 x4 x5 x6 x7 x8 : Int32) (k_a2 : ClassId) (h0 : Heap) (O0 : Old Z Z.heap.size h0) (V_a1 : Arv Z h0 a1 k_a1 .byte (9 : Int32) [(.int x1), (.int x2), (.int x3), (.int x4), (.int x5), (.int x1), (.int x6), (.int x7), (.int x8)] (.int 0)) (V_a2 : Arv Z h0 a2 k_a2 .byte (9 : Int32) [(.int (StrChars.lo8 (105 : Int32))), (.int (StrChars.lo8 (110 : Int32))), (.int (StrChars.lo8 (118 : Int32))), (.int (StrChars.lo8 (97 : Int32))), (.int (StrChars.lo8 (108 : Int32))), (.int (StrChars.lo8 (105 : Int32))), (.int (StrChars.lo8 (100 : Int32))), (.int (StrChars.lo8 (58 : Int32))), (.int (StrChars.lo8 (32 : Int32)))] (.int 0)) (hc1 : x1 = (StrChars.lo8 (105 : Int32))) (hc2 : x2 = (StrChars.lo8 (110 : Int32))) (hc3 : x3 = (StrChars.lo8 (118 : Int32))) (hc4 : x4 = (StrChars.lo8 (97 : Int32))) (hc5 : x5 = (StrChars.lo8 (108 : Int32))) (hc6 : x6 = (StrChars.lo8 (100 : Int32))) (hc7 : x7 = (StrChars.lo8 (58 : Int32))) (hc8 : x8 = (StrChars.lo8 (32 : Int32))) :
    CtrN l Z (⟨"java/lang/StringLatin1", "equals", "([B[B)Z"⟩ : MethodName) jdk_43_method_13_code 3 (some .boolean) [] (⟨0, 0, 0, 0⟩ : Room) #[(.ref a1), (.ref a2)] h0 [] (fun v h => v = some (.int 1)) := by
  refine CtrN.intro (L0 := #[.val (.ref a1), .val (.ref a2), .unset]) (plainFor_of_name pn6) O0 (own_entry rfl) ?_
  intro p e s m below meth c T0 hy hml hret hlk hnm W0
  refine o_aloadN W0 (pc' := 1) (hb hy d34_0) rfl rfl rfl ?_
  refine o_len W0 V_a1 (pc' := 2) (hb hy d34_1) rfl ?_
  refine o_aloadN W0 (pc' := 3) (hb hy d34_2) rfl rfl rfl ?_
  refine o_len W0 V_a2 (pc' := 4) (hb hy d34_3) rfl ?_
  refine o_icmpN W0 (pc' := 7) (hb hy d34_4) (XT.ii_ne_f (by decide)) rfl ?_
  refine o_iconst W0 (v := 0) (pc' := 8) (hb hy d34_7) rfl rfl ?_
  refine o_istoreN W0 (L' := #[.val (.ref a1), .val (.ref a2), .val (.int 0)]) (pc' := 9) (hb hy d34_8) rfl rfl ?_
  refine o_iloadN W0 (pc' := 10) (hb hy d34_9) rfl rfl ?_
  refine o_aloadN W0 (pc' := 11) (hb hy d34_10) rfl rfl rfl ?_
  refine o_len W0 V_a1 (pc' := 12) (hb hy d34_11) rfl ?_
  refine o_icmpN W0 (pc' := 15) (hb hy d34_12) (XT.ii_ge_f (by decide)) rfl ?_
  refine o_aloadN W0 (pc' := 16) (hb hy d34_15) rfl rfl rfl ?_
  refine o_iloadN W0 (pc' := 17) (hb hy d34_16) rfl rfl ?_
  refine o_baload W0 V_a1 (x := x1) (i := 0) (by decide) (by decide) (by decide) rfl (pc' := 18) (hb hy d34_17) rfl ?_
  refine o_aloadN W0 (pc' := 19) (hb hy d34_18) rfl rfl rfl ?_
  refine o_iloadN W0 (pc' := 20) (hb hy d34_19) rfl rfl ?_
  refine o_baload W0 V_a2 (x := (StrChars.lo8 (105 : Int32))) (i := 0) (by decide) (by decide) (by decide) rfl (pc' := 21) (hb hy d34_20) rfl ?_
  refine o_icmpY W0 (pc' := 26) (hb hy d34_21) (XT.ii_eq_t hc1) (by decide) rfl ?_
  refine o_iinc W0 (v := 1) (L' := #[.val (.ref a1), .val (.ref a2), .val (.int 1)]) (pc' := 29) (hb hy d34_26) rfl (by decide) rfl rfl ?_
  refine o_goto W0 (pc' := 9) (hb hy d34_29) (by decide) rfl ?_
  refine o_iloadN W0 (pc' := 10) (hb hy d34_9) rfl rfl ?_
  refine o_aloadN W0 (pc' := 11) (hb hy d34_10) rfl rfl rfl ?_
  refine o_len W0 V_a1 (pc' := 12) (hb hy d34_11) rfl ?_
  refine o_icmpN W0 (pc' := 15) (hb hy d34_12) (XT.ii_ge_f (by decide)) rfl ?_
  refine o_aloadN W0 (pc' := 16) (hb hy d34_15) rfl rfl rfl ?_
  refine o_iloadN W0 (pc' := 17) (hb hy d34_16) rfl rfl ?_
  refine o_baload W0 V_a1 (x := x2) (i := 1) (by decide) (by decide) (by decide) rfl (pc' := 18) (hb hy d34_17) rfl ?_
  refine o_aloadN W0 (pc' := 19) (hb hy d34_18) rfl rfl rfl ?_
  refine o_iloadN W0 (pc' := 20) (hb hy d34_19) rfl rfl ?_
  refine o_baload W0 V_a2 (x := (StrChars.lo8 (110 : Int32))) (i := 1) (by decide) (by decide) (by decide) rfl (pc' := 21) (hb hy d34_20) rfl ?_
  refine o_icmpY W0 (pc' := 26) (hb hy d34_21) (XT.ii_eq_t hc2) (by decide) rfl ?_
  refine o_iinc W0 (v := 2) (L' := #[.val (.ref a1), .val (.ref a2), .val (.int 2)]) (pc' := 29) (hb hy d34_26) rfl (by decide) rfl rfl ?_
  refine o_goto W0 (pc' := 9) (hb hy d34_29) (by decide) rfl ?_
  refine o_iloadN W0 (pc' := 10) (hb hy d34_9) rfl rfl ?_
  refine o_aloadN W0 (pc' := 11) (hb hy d34_10) rfl rfl rfl ?_
  refine o_len W0 V_a1 (pc' := 12) (hb hy d34_11) rfl ?_
  refine o_icmpN W0 (pc' := 15) (hb hy d34_12) (XT.ii_ge_f (by decide)) rfl ?_
  refine o_aloadN W0 (pc' := 16) (hb hy d34_15) rfl rfl rfl ?_
  refine o_iloadN W0 (pc' := 17) (hb hy d34_16) rfl rfl ?_
  refine o_baload W0 V_a1 (x := x3) (i := 2) (by decide) (by decide) (by decide) rfl (pc' := 18) (hb hy d34_17) rfl ?_
  refine o_aloadN W0 (pc' := 19) (hb hy d34_18) rfl rfl rfl ?_
  refine o_iloadN W0 (pc' := 20) (hb hy d34_19) rfl rfl ?_
  refine o_baload W0 V_a2 (x := (StrChars.lo8 (118 : Int32))) (i := 2) (by decide) (by decide) (by decide) rfl (pc' := 21) (hb hy d34_20) rfl ?_
  refine o_icmpY W0 (pc' := 26) (hb hy d34_21) (XT.ii_eq_t hc3) (by decide) rfl ?_
  refine o_iinc W0 (v := 3) (L' := #[.val (.ref a1), .val (.ref a2), .val (.int 3)]) (pc' := 29) (hb hy d34_26) rfl (by decide) rfl rfl ?_
  refine o_goto W0 (pc' := 9) (hb hy d34_29) (by decide) rfl ?_
  refine o_iloadN W0 (pc' := 10) (hb hy d34_9) rfl rfl ?_
  refine o_aloadN W0 (pc' := 11) (hb hy d34_10) rfl rfl rfl ?_
  refine o_len W0 V_a1 (pc' := 12) (hb hy d34_11) rfl ?_
  refine o_icmpN W0 (pc' := 15) (hb hy d34_12) (XT.ii_ge_f (by decide)) rfl ?_
  refine o_aloadN W0 (pc' := 16) (hb hy d34_15) rfl rfl rfl ?_
  refine o_iloadN W0 (pc' := 17) (hb hy d34_16) rfl rfl ?_
  refine o_baload W0 V_a1 (x := x4) (i := 3) (by decide) (by decide) (by decide) rfl (pc' := 18) (hb hy d34_17) rfl ?_
  refine o_aloadN W0 (pc' := 19) (hb hy d34_18) rfl rfl rfl ?_
  refine o_iloadN W0 (pc' := 20) (hb hy d34_19) rfl rfl ?_
  refine o_baload W0 V_a2 (x := (StrChars.lo8 (97 : Int32))) (i := 3) (by decide) (by decide) (by decide) rfl (pc' := 21) (hb hy d34_20) rfl ?_
  refine o_icmpY W0 (pc' := 26) (hb hy d34_21) (XT.ii_eq_t hc4) (by decide) rfl ?_
  refine o_iinc W0 (v := 4) (L' := #[.val (.ref a1), .val (.ref a2), .val (.int 4)]) (pc' := 29) (hb hy d34_26) rfl (by decide) rfl rfl ?_
  refine o_goto W0 (pc' := 9) (hb hy d34_29) (by decide) rfl ?_
  refine o_iloadN W0 (pc' := 10) (hb hy d34_9) rfl rfl ?_
  refine o_aloadN W0 (pc' := 11) (hb hy d34_10) rfl rfl rfl ?_
  refine o_len W0 V_a1 (pc' := 12) (hb hy d34_11) rfl ?_
  refine o_icmpN W0 (pc' := 15) (hb hy d34_12) (XT.ii_ge_f (by decide)) rfl ?_
  refine o_aloadN W0 (pc' := 16) (hb hy d34_15) rfl rfl rfl ?_
  refine o_iloadN W0 (pc' := 17) (hb hy d34_16) rfl rfl ?_
  refine o_baload W0 V_a1 (x := x5) (i := 4) (by decide) (by decide) (by decide) rfl (pc' := 18) (hb hy d34_17) rfl ?_
  refine o_aloadN W0 (pc' := 19) (hb hy d34_18) rfl rfl rfl ?_
  refine o_iloadN W0 (pc' := 20) (hb hy d34_19) rfl rfl ?_
  refine o_baload W0 V_a2 (x := (StrChars.lo8 (108 : Int32))) (i := 4) (by decide) (by decide) (by decide) rfl (pc' := 21) (hb hy d34_20) rfl ?_
  refine o_icmpY W0 (pc' := 26) (hb hy d34_21) (XT.ii_eq_t hc5) (by decide) rfl ?_
  refine o_iinc W0 (v := 5) (L' := #[.val (.ref a1), .val (.ref a2), .val (.int 5)]) (pc' := 29) (hb hy d34_26) rfl (by decide) rfl rfl ?_
  refine o_goto W0 (pc' := 9) (hb hy d34_29) (by decide) rfl ?_
  refine o_iloadN W0 (pc' := 10) (hb hy d34_9) rfl rfl ?_
  refine o_aloadN W0 (pc' := 11) (hb hy d34_10) rfl rfl rfl ?_
  refine o_len W0 V_a1 (pc' := 12) (hb hy d34_11) rfl ?_
  refine o_icmpN W0 (pc' := 15) (hb hy d34_12) (XT.ii_ge_f (by decide)) rfl ?_
  refine o_aloadN W0 (pc' := 16) (hb hy d34_15) rfl rfl rfl ?_
  refine o_iloadN W0 (pc' := 17) (hb hy d34_16) rfl rfl ?_
  refine o_baload W0 V_a1 (x := x1) (i := 5) (by decide) (by decide) (by decide) rfl (pc' := 18) (hb hy d34_17) rfl ?_
  refine o_aloadN W0 (pc' := 19) (hb hy d34_18) rfl rfl rfl ?_
  refine o_iloadN W0 (pc' := 20) (hb hy d34_19) rfl rfl ?_
  refine o_baload W0 V_a2 (x := (StrChars.lo8 (105 : Int32))) (i := 5) (by decide) (by decide) (by decide) rfl (pc' := 21) (hb hy d34_20) rfl ?_
  refine o_icmpY W0 (pc' := 26) (hb hy d34_21) (XT.ii_eq_t hc1) (by decide) rfl ?_
  refine o_iinc W0 (v := 6) (L' := #[.val (.ref a1), .val (.ref a2), .val (.int 6)]) (pc' := 29) (hb hy d34_26) rfl (by decide) rfl rfl ?_
  refine o_goto W0 (pc' := 9) (hb hy d34_29) (by decide) rfl ?_
  refine o_iloadN W0 (pc' := 10) (hb hy d34_9) rfl rfl ?_
  refine o_aloadN W0 (pc' := 11) (hb hy d34_10) rfl rfl rfl ?_
  refine o_len W0 V_a1 (pc' := 12) (hb hy d34_11) rfl ?_
  refine o_icmpN W0 (pc' := 15) (hb hy d34_12) (XT.ii_ge_f (by decide)) rfl ?_
  refine o_aloadN W0 (pc' := 16) (hb hy d34_15) rfl rfl rfl ?_
  refine o_iloadN W0 (pc' := 17) (hb hy d34_16) rfl rfl ?_
  refine o_baload W0 V_a1 (x := x6) (i := 6) (by decide) (by decide) (by decide) rfl (pc' := 18) (hb hy d34_17) rfl ?_
  refine o_aloadN W0 (pc' := 19) (hb hy d34_18) rfl rfl rfl ?_
  refine o_iloadN W0 (pc' := 20) (hb hy d34_19) rfl rfl ?_
  refine o_baload W0 V_a2 (x := (StrChars.lo8 (100 : Int32))) (i := 6) (by decide) (by decide) (by decide) rfl (pc' := 21) (hb hy d34_20) rfl ?_
  refine o_icmpY W0 (pc' := 26) (hb hy d34_21) (XT.ii_eq_t hc6) (by decide) rfl ?_
  refine o_iinc W0 (v := 7) (L' := #[.val (.ref a1), .val (.ref a2), .val (.int 7)]) (pc' := 29) (hb hy d34_26) rfl (by decide) rfl rfl ?_
  refine o_goto W0 (pc' := 9) (hb hy d34_29) (by decide) rfl ?_
  refine o_iloadN W0 (pc' := 10) (hb hy d34_9) rfl rfl ?_
  refine o_aloadN W0 (pc' := 11) (hb hy d34_10) rfl rfl rfl ?_
  refine o_len W0 V_a1 (pc' := 12) (hb hy d34_11) rfl ?_
  refine o_icmpN W0 (pc' := 15) (hb hy d34_12) (XT.ii_ge_f (by decide)) rfl ?_
  refine o_aloadN W0 (pc' := 16) (hb hy d34_15) rfl rfl rfl ?_
  refine o_iloadN W0 (pc' := 17) (hb hy d34_16) rfl rfl ?_
  refine o_baload W0 V_a1 (x := x7) (i := 7) (by decide) (by decide) (by decide) rfl (pc' := 18) (hb hy d34_17) rfl ?_
  refine o_aloadN W0 (pc' := 19) (hb hy d34_18) rfl rfl rfl ?_
  refine o_iloadN W0 (pc' := 20) (hb hy d34_19) rfl rfl ?_
  refine o_baload W0 V_a2 (x := (StrChars.lo8 (58 : Int32))) (i := 7) (by decide) (by decide) (by decide) rfl (pc' := 21) (hb hy d34_20) rfl ?_
  refine o_icmpY W0 (pc' := 26) (hb hy d34_21) (XT.ii_eq_t hc7) (by decide) rfl ?_
  refine o_iinc W0 (v := 8) (L' := #[.val (.ref a1), .val (.ref a2), .val (.int 8)]) (pc' := 29) (hb hy d34_26) rfl (by decide) rfl rfl ?_
  refine o_goto W0 (pc' := 9) (hb hy d34_29) (by decide) rfl ?_
  refine o_iloadN W0 (pc' := 10) (hb hy d34_9) rfl rfl ?_
  refine o_aloadN W0 (pc' := 11) (hb hy d34_10) rfl rfl rfl ?_
  refine o_len W0 V_a1 (pc' := 12) (hb hy d34_11) rfl ?_
  refine o_icmpN W0 (pc' := 15) (hb hy d34_12) (XT.ii_ge_f (by decide)) rfl ?_
  refine o_aloadN W0 (pc' := 16) (hb hy d34_15) rfl rfl rfl ?_
  refine o_iloadN W0 (pc' := 17) (hb hy d34_16) rfl rfl ?_
  refine o_baload W0 V_a1 (x := x8) (i := 8) (by decide) (by decide) (by decide) rfl (pc' := 18) (hb hy d34_17) rfl ?_
  refine o_aloadN W0 (pc' := 19) (hb hy d34_18) rfl rfl rfl ?_
  refine o_iloadN W0 (pc' := 20) (hb hy d34_19) rfl rfl ?_
  refine o_baload W0 V_a2 (x := (StrChars.lo8 (32 : Int32))) (i := 8) (by decide) (by decide) (by decide) rfl (pc' := 21) (hb hy d34_20) rfl ?_
  refine o_icmpY W0 (pc' := 26) (hb hy d34_21) (XT.ii_eq_t hc8) (by decide) rfl ?_
  refine o_iinc W0 (v := 9) (L' := #[.val (.ref a1), .val (.ref a2), .val (.int 9)]) (pc' := 29) (hb hy d34_26) rfl (by decide) rfl rfl ?_
  refine o_goto W0 (pc' := 9) (hb hy d34_29) (by decide) rfl ?_
  refine o_iloadN W0 (pc' := 10) (hb hy d34_9) rfl rfl ?_
  refine o_aloadN W0 (pc' := 11) (hb hy d34_10) rfl rfl rfl ?_
  refine o_len W0 V_a1 (pc' := 12) (hb hy d34_11) rfl ?_
  refine o_icmpY W0 (pc' := 32) (hb hy d34_12) (XT.ii_ge_t (by decide)) (by decide) rfl ?_
  refine o_iconst W0 (v := 1) (pc' := 33) (hb hy d34_32) rfl rfl ?_
  exact o_retN W0 hlk (t := .boolean) hret (by simp) (z' := (1 : Int32)) (by decide) (hb hy d34_33) (by decide) (by decide) rfl
theorem rm90 (l : Launch) (Z : State) (a0 : Array Value) (hw : ∀ d ∈ tables_1, d.before a0 Z = true) (gCS : Int32) (a1 a2 a3 a4 : Addr) (k_a3 : ClassId) (x1 x2 x3 x4 x5 x6 x7 x8 : Int32) (k_a4 : ClassId) (h0 : Heap) (O0 : Old Z Z.heap.size h0) (E_a1 : Exa Z h0 a1 "java/lang/String") (E_a2 : Exa Z h0 a2 "java/lang/String") (ne_a1_a2 : a1 ≠ a2) (SgCS : Sta Z Z.heap "java/lang/String" "COMPACT_STRINGS" "Z" (.int gCS)) (NgCS : ¬ (gCS = (0 : Int32))) (F_a1_coder : Fld Z h0 a1 "java/lang/String" "coder" "B" (.int 0)) (F_a2_coder : Fld Z h0 a2 "java/lang/String" "coder" "B" (.int 0)) (F_a1_value : Fld Z h0 a1 "java/lang/String" "value" "[B" (.ref a3)) (F_a2_value : Fld Z h0 a2 "java/lang/String" "value" "[B" (.ref a4)) (V_a3 : Arv Z h0 a3 k_a3 .byte (9 : Int32) [(.int x1), (.int x2), (.int x3), (.int x4), (.int x5), (.int x1), (.int x6), (.int x7), (.int x8)] (.int 0)) (V_a4 : Arv Z h0 a4 k_a4 .byte (9 : Int32) [(.int (StrChars.lo8 (105 : Int32))), (.int (StrChars.lo8 (110 : Int32))), (.int (StrChars.lo8 (118 : Int32))), (.int (StrChars.lo8 (97 : Int32))), (.int (StrChars.lo8 (108 : Int32))), (.int (StrChars.lo8 (105 : Int32))), (.int (StrChars.lo8 (100 : Int32))), (.int (StrChars.lo8 (58 : Int32))), (.int (StrChars.lo8 (32 : Int32)))] (.int 0)) (hc8 : x1 = (StrChars.lo8 (105 : Int32))) (hc9 : x2 = (StrChars.lo8 (110 : Int32))) (hc10 : x3 = (StrChars.lo8 (118 : Int32))) (hc11 : x4 = (StrChars.lo8 (97 : Int32))) (hc12 : x5 = (StrChars.lo8 (108 : Int32))) (hc13 : x6 = (StrChars.lo8 (100 : Int32))) (hc14 : x7 = (StrChars.lo8 (58 : Int32))) (hc15 : x8 = (StrChars.lo8 (32 : Int32))) :
    CtrN l Z (⟨"java/lang/String", "equals", "(Ljava/lang/Object;)Z"⟩ : MethodName) jdk_42_method_66_code 3 (some .boolean) [] (⟨1, 0, 0, 14⟩ : Room) #[(.ref a1), (.ref a2)] h0 [] (fun v h => v = some (.int 1)) := by
  refine CtrN.intro (L0 := #[.val (.ref a1), .val (.ref a2), .unset]) (plainFor_of_name pn4) O0 (own_entry rfl) ?_
  intro p e s m below meth c T0 hy hml hret hlk hnm W0
  refine o_aloadN W0 (pc' := 1) (hb hy d33_0) rfl rfl rfl ?_
  refine o_aloadN W0 (pc' := 2) (hb hy d33_1) rfl rfl rfl ?_
  refine o_acmpY W0 (pc' := 7) (hb hy d33_2) rfl rfl (XT.aa_ne_t (fun q => ne_a1_a2 (Value.ref.inj q))) (by decide) rfl ?_
  refine o_aloadN W0 (pc' := 8) (hb hy d33_7) rfl rfl rfl ?_
  refine o_instY W0 (w177 hw) (Ins.self E_a2) (pc' := 11) (hb hy d33_8) rfl ?_
  intro T1 W1
  refine o_ifN W1 (pc' := 14) (hb hy d33_11) (XT.i0_eq_f (by decide)) rfl ?_
  refine o_aloadN W1 (pc' := 15) (hb hy d33_14) rfl rfl rfl ?_
  refine o_cast W1 (w177 hw) (Ins.self E_a2) (pc' := 18) (hb hy d33_15) rfl ?_
  intro T2 W2
  refine o_astoreN W2 (L' := #[.val (.ref a1), .val (.ref a2), .val (.ref a2)]) (pc' := 19) (hb hy d33_18) rfl rfl rfl ?_
  refine o_getS W2 (w22 hw) Via.refl (SgCS.ext W2.ox) (pc' := 22) (hb hy d33_19) rfl ?_
  intro T3 W3
  refine o_ifN W3 (pc' := 25) (hb hy d33_22) (XT.i0_eq_f NgCS) rfl ?_
  refine o_aloadN W3 (pc' := 26) (hb hy d33_25) rfl rfl rfl ?_
  refine o_getF W3 (w21 hw) Via.refl F_a1_coder (pc' := 29) (hb hy d33_26) rfl ?_
  intro T4 W4
  refine o_aloadN W4 (pc' := 30) (hb hy d33_29) rfl rfl rfl ?_
  refine o_getF W4 (w21 hw) Via.refl F_a2_coder (pc' := 33) (hb hy d33_30) rfl ?_
  intro T5 W5
  refine o_icmpN W5 (pc' := 36) (hb hy d33_33) (XT.ii_ne_f (by decide)) rfl ?_
  refine o_aloadN W5 (pc' := 37) (hb hy d33_36) rfl rfl rfl ?_
  refine o_getF W5 (w20 hw) Via.refl F_a1_value (pc' := 40) (hb hy d33_37) rfl ?_
  intro T6 W6
  refine o_aloadN W6 (pc' := 41) (hb hy d33_40) rfl rfl rfl ?_
  refine o_getF W6 (w20 hw) Via.refl F_a2_value (pc' := 44) (hb hy d33_41) rfl ?_
  intro T7 W7
  refine o_static W7 (y := (⟨"java/lang/StringLatin1", "equals", "([B[B)Z"⟩ : MethodName)) (w178 hw) (w179 hw) (w180 hw) (w181 hw) (by decide) (argsL := [(.ref a3), (.ref a4)]) (CtrN.back (Wd := 0) W7 (rm89 l Z a0 hw a3 a4 k_a3 x1 x2 x3 x4 x5 x6 x7 x8 k_a4 h0 W7.old V_a3 V_a4 hc8 hc9 hc10 hc11 hc12 hc13 hc14 hc15) (w181 hw) (w180 hw) (by decide) (by decide)) (by rw [hml]; rfl) (lenOf pd20 rfl) (S := []) rfl (by exact Nat.le_of_eq rfl) (pc' := 47) (hb hy d33_44) rfl (cells' := 0) (slots' := 0) rfl rfl (by decide) (by decide) (wy := []) (fun _ _ _ q => ⟨q.1, q.2.1⟩) all0 (fun _ _ => trivial) ?_
  intro v16 T16 h16 lo16 W16 K16 q16
  obtain rfl := q16.2.2
  show Gl _ _ _ _ _ _ _ _ [(.int 1)]
  refine o_ifN W16 (pc' := 50) (hb hy d33_47) (XT.i0_eq_f (by decide)) rfl ?_
  refine o_iconst W16 (v := 1) (pc' := 51) (hb hy d33_50) rfl rfl ?_
  refine o_goto W16 (pc' := 55) (hb hy d33_51) (by decide) rfl ?_
  exact o_retN W16 hlk (t := .boolean) hret (by simp) (z' := (1 : Int32)) (by decide) (hb hy d33_55) (by decide) (by decide) rfl
theorem rm_law (l : Launch) (Z : State) (a0 : Array Value) (hw : ∀ d ∈ tables_1, d.before a0 Z = true) (gCS p0 p1 p2 p3 : Int32) (h0 : Heap) (O0 : Old Z Z.heap.size h0) (SgCS : Sta Z Z.heap "java/lang/String" "COMPACT_STRINGS" "Z" (.int gCS)) (NgCS : ¬ (gCS = (0 : Int32))) :
    CtrW l Z consts_1 x code maxLocals ret tables_1 room_1 #[(.int p0), (.int p1), (.int p2), (.int p3)] h0 [] (fun v _ => v = some (.int 1)) := by
  refine CtrW.intro (L0 := #[.val (.int p0), .val (.int p1), .val (.int p2), .val (.int p3), .unset, .unset, .unset, .unset, .unset, .unset, .unset, .unset, .unset, .unset, .unset, .unset, .unset, .unset, .unset, .unset]) (plainFor_of_name pn7) O0 (own_entry rfl) ?_
  intro p e s m below meth c T0 V0 hy hml hret hlk hnm W0
  refine o_iloadN W0 (pc' := 1) (hb hy at_0) rfl rfl ?_
  refine o_sipush W0 (v := 255) (pc' := 4) (hb hy at_1) (by decide) rfl ?_
  refine o_iand W0 (v := (p1 &&& (255 : Int32))) (pc' := 5) (hb hy at_4) rfl rfl ?_
  refine o_i2c W0 (v := (p1 &&& (255 : Int32))) (pc' := 6) (hb hy at_5) (own_i2c (own_b255 _)) rfl ?_
  refine o_istore W0 (L' := #[.val (.int p0), .val (.int p1), .val (.int p2), .val (.int p3), .val (.int (p1 &&& (255 : Int32))), .unset, .unset, .unset, .unset, .unset, .unset, .unset, .unset, .unset, .unset, .unset, .unset, .unset, .unset, .unset]) (pc' := 8) (hb hy at_6) rfl rfl ?_
  refine o_iloadN W0 (pc' := 9) (hb hy at_8) rfl rfl ?_
  refine o_sipush W0 (v := 255) (pc' := 12) (hb hy at_9) (by decide) rfl ?_
  refine o_iand W0 (v := (p2 &&& (255 : Int32))) (pc' := 13) (hb hy at_12) rfl rfl ?_
  refine o_i2c W0 (v := (p2 &&& (255 : Int32))) (pc' := 14) (hb hy at_13) (own_i2c (own_b255 _)) rfl ?_
  refine o_istore W0 (L' := #[.val (.int p0), .val (.int p1), .val (.int p2), .val (.int p3), .val (.int (p1 &&& (255 : Int32))), .val (.int (p2 &&& (255 : Int32))), .unset, .unset, .unset, .unset, .unset, .unset, .unset, .unset, .unset, .unset, .unset, .unset, .unset, .unset]) (pc' := 16) (hb hy at_14) rfl rfl ?_
  refine o_iloadN W0 (pc' := 17) (hb hy at_16) rfl rfl ?_
  refine o_sipush W0 (v := 255) (pc' := 20) (hb hy at_17) (by decide) rfl ?_
  refine o_iand W0 (v := (p3 &&& (255 : Int32))) (pc' := 21) (hb hy at_20) rfl rfl ?_
  refine o_i2c W0 (v := (p3 &&& (255 : Int32))) (pc' := 22) (hb hy at_21) (own_i2c (own_b255 _)) rfl ?_
  refine o_istore W0 (L' := #[.val (.int p0), .val (.int p1), .val (.int p2), .val (.int p3), .val (.int (p1 &&& (255 : Int32))), .val (.int (p2 &&& (255 : Int32))), .val (.int (p3 &&& (255 : Int32))), .unset, .unset, .unset, .unset, .unset, .unset, .unset, .unset, .unset, .unset, .unset, .unset, .unset]) (pc' := 24) (hb hy at_22) rfl rfl ?_
  refine o_iloadN W0 (pc' := 25) (hb hy at_24) rfl rfl ?_
  refine o_iconst W0 (v := 3) (pc' := 26) (hb hy at_25) rfl rfl ?_
  refine o_iand W0 (v := (p0 &&& (3 : Int32))) (pc' := 27) (hb hy at_26) rfl rfl ?_
  refine o_istore W0 (L' := #[.val (.int p0), .val (.int p1), .val (.int p2), .val (.int p3), .val (.int (p1 &&& (255 : Int32))), .val (.int (p2 &&& (255 : Int32))), .val (.int (p3 &&& (255 : Int32))), .val (.int (p0 &&& (3 : Int32))), .unset, .unset, .unset, .unset, .unset, .unset, .unset, .unset, .unset, .unset, .unset, .unset]) (pc' := 29) (hb hy at_27) rfl rfl ?_
  refine o_iconst W0 (v := 0) (pc' := 30) (hb hy at_29) rfl rfl ?_
  refine o_newP W0 (aty := .char) (w0 hw) (fun _ E => IW.ext E W0.inv) (by decide) (cap := 0) (by decide) (by decide) (pc' := 32) (hb hy at_30) rfl (cells' := 1) (slots' := 0) rfl rfl (by decide) (by decide) (vs := []) (dv := (.int 0)) rfl rfl ?_
  intro b1 T1 h1 k1 W1 E1 ge1 gz1 gb1 V1
  refine o_astore W1 (L' := #[.val (.int p0), .val (.int p1), .val (.int p2), .val (.int p3), .val (.int (p1 &&& (255 : Int32))), .val (.int (p2 &&& (255 : Int32))), .val (.int (p3 &&& (255 : Int32))), .val (.int (p0 &&& (3 : Int32))), .val (.ref b1), .unset, .unset, .unset, .unset, .unset, .unset, .unset, .unset, .unset, .unset, .unset]) (pc' := 34) (hb hy at_32) rfl rfl rfl ?_
  refine o_iconst W1 (v := 1) (pc' := 35) (hb hy at_34) rfl rfl ?_
  refine o_newP W1 (aty := .char) (w0 hw) (fun _ E => IW.ext E W1.inv) (by decide) (cap := 1) (by decide) (by decide) (pc' := 37) (hb hy at_35) rfl (cells' := 2) (slots' := 1) rfl rfl (by decide) (by decide) (vs := [(.int 0)]) (dv := (.int 0)) rfl rfl ?_
  intro b2 T2 h2 k2 W2 E2 ge2 gz2 gb2 V2
  refine o_dup W2 (pc' := 38) (hb hy at_37) rfl rfl ?_
  refine o_iconst W2 (v := 0) (pc' := 39) (hb hy at_38) rfl rfl ?_
  refine o_iload W2 (pc' := 41) (hb hy at_39) rfl rfl ?_
  refine o_stC W2 V2 (i := 0) (x' := (p1 &&& (255 : Int32))) (by decide) (by decide) (by decide) (Nat.lt_of_sub_eq_succ rfl) (own_i2c (own_b255 _)) (vs' := [(.int (p1 &&& (255 : Int32)))]) rfl gz2 (Or.inr gb2) (fun _ R => IW.wr R (Safe.arv W2.al V2 (by decide)) W2.inv) (pc' := 42) (hb hy at_41) rfl ?_
  intro T3 h3 lo3 W3 R3 V3
  refine o_astore W3 (L' := #[.val (.int p0), .val (.int p1), .val (.int p2), .val (.int p3), .val (.int (p1 &&& (255 : Int32))), .val (.int (p2 &&& (255 : Int32))), .val (.int (p3 &&& (255 : Int32))), .val (.int (p0 &&& (3 : Int32))), .val (.ref b1), .val (.ref b2), .unset, .unset, .unset, .unset, .unset, .unset, .unset, .unset, .unset, .unset]) (pc' := 44) (hb hy at_42) rfl rfl rfl ?_
  refine o_iconst W3 (v := 2) (pc' := 45) (hb hy at_44) rfl rfl ?_
  refine o_newP W3 (aty := .char) (w0 hw) (fun _ E => IW.ext E W3.inv) (by decide) (cap := 2) (by decide) (by decide) (pc' := 47) (hb hy at_45) rfl (cells' := 3) (slots' := 3) rfl rfl (by decide) (by decide) (vs := [(.int 0), (.int 0)]) (dv := (.int 0)) rfl rfl ?_
  intro b4 T4 h4 k4 W4 E4 ge4 gz4 gb4 V4
  refine o_dup W4 (pc' := 48) (hb hy at_47) rfl rfl ?_
  refine o_iconst W4 (v := 0) (pc' := 49) (hb hy at_48) rfl rfl ?_
  refine o_iload W4 (pc' := 51) (hb hy at_49) rfl rfl ?_
  refine o_stC W4 V4 (i := 0) (x' := (p1 &&& (255 : Int32))) (by decide) (by decide) (by decide) (Nat.lt_of_sub_eq_succ rfl) (own_i2c (own_b255 _)) (vs' := [(.int (p1 &&& (255 : Int32))), (.int 0)]) rfl gz4 (Or.inr gb4) (fun _ R => IW.wr R (Safe.arv W4.al V4 (by decide)) W4.inv) (pc' := 52) (hb hy at_51) rfl ?_
  intro T5 h5 lo5 W5 R5 V5
  refine o_dup W5 (pc' := 53) (hb hy at_52) rfl rfl ?_
  refine o_iconst W5 (v := 1) (pc' := 54) (hb hy at_53) rfl rfl ?_
  refine o_iload W5 (pc' := 56) (hb hy at_54) rfl rfl ?_
  refine o_stC W5 V5 (i := 1) (x' := (p2 &&& (255 : Int32))) (by decide) (by decide) (by decide) (Nat.lt_of_sub_eq_succ rfl) (own_i2c (own_b255 _)) (vs' := [(.int (p1 &&& (255 : Int32))), (.int (p2 &&& (255 : Int32)))]) rfl gz4 (Or.inr gb4) (fun _ R => IW.wr R (Safe.arv W5.al V5 (by decide)) W5.inv) (pc' := 57) (hb hy at_56) rfl ?_
  intro T6 h6 lo6 W6 R6 V6
  refine o_astore W6 (L' := #[.val (.int p0), .val (.int p1), .val (.int p2), .val (.int p3), .val (.int (p1 &&& (255 : Int32))), .val (.int (p2 &&& (255 : Int32))), .val (.int (p3 &&& (255 : Int32))), .val (.int (p0 &&& (3 : Int32))), .val (.ref b1), .val (.ref b2), .val (.ref b4), .unset, .unset, .unset, .unset, .unset, .unset, .unset, .unset, .unset]) (pc' := 59) (hb hy at_57) rfl rfl rfl ?_
  refine o_iconst W6 (v := 3) (pc' := 60) (hb hy at_59) rfl rfl ?_
  refine o_newP W6 (aty := .char) (w0 hw) (fun _ E => IW.ext E W6.inv) (by decide) (cap := 3) (by decide) (by decide) (pc' := 62) (hb hy at_60) rfl (cells' := 4) (slots' := 6) rfl rfl (by decide) (by decide) (vs := [(.int 0), (.int 0), (.int 0)]) (dv := (.int 0)) rfl rfl ?_
  intro b7 T7 h7 k7 W7 E7 ge7 gz7 gb7 V7
  refine o_dup W7 (pc' := 63) (hb hy at_62) rfl rfl ?_
  refine o_iconst W7 (v := 0) (pc' := 64) (hb hy at_63) rfl rfl ?_
  refine o_iload W7 (pc' := 66) (hb hy at_64) rfl rfl ?_
  refine o_stC W7 V7 (i := 0) (x' := (p1 &&& (255 : Int32))) (by decide) (by decide) (by decide) (Nat.lt_of_sub_eq_succ rfl) (own_i2c (own_b255 _)) (vs' := [(.int (p1 &&& (255 : Int32))), (.int 0), (.int 0)]) rfl gz7 (Or.inr gb7) (fun _ R => IW.wr R (Safe.arv W7.al V7 (by decide)) W7.inv) (pc' := 67) (hb hy at_66) rfl ?_
  intro T8 h8 lo8 W8 R8 V8
  refine o_dup W8 (pc' := 68) (hb hy at_67) rfl rfl ?_
  refine o_iconst W8 (v := 1) (pc' := 69) (hb hy at_68) rfl rfl ?_
  refine o_iload W8 (pc' := 71) (hb hy at_69) rfl rfl ?_
  refine o_stC W8 V8 (i := 1) (x' := (p2 &&& (255 : Int32))) (by decide) (by decide) (by decide) (Nat.lt_of_sub_eq_succ rfl) (own_i2c (own_b255 _)) (vs' := [(.int (p1 &&& (255 : Int32))), (.int (p2 &&& (255 : Int32))), (.int 0)]) rfl gz7 (Or.inr gb7) (fun _ R => IW.wr R (Safe.arv W8.al V8 (by decide)) W8.inv) (pc' := 72) (hb hy at_71) rfl ?_
  intro T9 h9 lo9 W9 R9 V9
  refine o_dup W9 (pc' := 73) (hb hy at_72) rfl rfl ?_
  refine o_iconst W9 (v := 2) (pc' := 74) (hb hy at_73) rfl rfl ?_
  refine o_iload W9 (pc' := 76) (hb hy at_74) rfl rfl ?_
  refine o_stC W9 V9 (i := 2) (x' := (p3 &&& (255 : Int32))) (by decide) (by decide) (by decide) (Nat.lt_of_sub_eq_succ rfl) (own_i2c (own_b255 _)) (vs' := [(.int (p1 &&& (255 : Int32))), (.int (p2 &&& (255 : Int32))), (.int (p3 &&& (255 : Int32)))]) rfl gz7 (Or.inr gb7) (fun _ R => IW.wr R (Safe.arv W9.al V9 (by decide)) W9.inv) (pc' := 77) (hb hy at_76) rfl ?_
  intro T10 h10 lo10 W10 R10 V10
  refine o_astore W10 (L' := #[.val (.int p0), .val (.int p1), .val (.int p2), .val (.int p3), .val (.int (p1 &&& (255 : Int32))), .val (.int (p2 &&& (255 : Int32))), .val (.int (p3 &&& (255 : Int32))), .val (.int (p0 &&& (3 : Int32))), .val (.ref b1), .val (.ref b2), .val (.ref b4), .val (.ref b7), .unset, .unset, .unset, .unset, .unset, .unset, .unset, .unset]) (pc' := 79) (hb hy at_77) rfl rfl rfl ?_
  refine o_bipush W10 (v := 9) (pc' := 81) (hb hy at_79) (by decide) rfl ?_
  refine o_newP W10 (aty := .char) (w0 hw) (fun _ E => IW.ext E W10.inv) (by decide) (cap := 9) (by decide) (by decide) (pc' := 83) (hb hy at_81) rfl (cells' := 5) (slots' := 15) rfl rfl (by decide) (by decide) (vs := [(.int 0), (.int 0), (.int 0), (.int 0), (.int 0), (.int 0), (.int 0), (.int 0), (.int 0)]) (dv := (.int 0)) rfl rfl ?_
  intro b11 T11 h11 k11 W11 E11 ge11 gz11 gb11 V11
  refine o_dup W11 (pc' := 84) (hb hy at_83) rfl rfl ?_
  refine o_iconst W11 (v := 0) (pc' := 85) (hb hy at_84) rfl rfl ?_
  refine o_bipush W11 (v := 105) (pc' := 87) (hb hy at_85) (by decide) rfl ?_
  refine o_stC W11 V11 (i := 0) (x' := (105 : Int32)) (by decide) (by decide) (by decide) (Nat.lt_of_sub_eq_succ rfl) (by decide) (vs' := [(.int 105), (.int 0), (.int 0), (.int 0), (.int 0), (.int 0), (.int 0), (.int 0), (.int 0)]) rfl gz11 (Or.inr gb11) (fun _ R => IW.wr R (Safe.arv W11.al V11 (by decide)) W11.inv) (pc' := 88) (hb hy at_87) rfl ?_
  intro T12 h12 lo12 W12 R12 V12
  refine o_dup W12 (pc' := 89) (hb hy at_88) rfl rfl ?_
  refine o_iconst W12 (v := 1) (pc' := 90) (hb hy at_89) rfl rfl ?_
  refine o_bipush W12 (v := 110) (pc' := 92) (hb hy at_90) (by decide) rfl ?_
  refine o_stC W12 V12 (i := 1) (x' := (110 : Int32)) (by decide) (by decide) (by decide) (Nat.lt_of_sub_eq_succ rfl) (by decide) (vs' := [(.int 105), (.int 110), (.int 0), (.int 0), (.int 0), (.int 0), (.int 0), (.int 0), (.int 0)]) rfl gz11 (Or.inr gb11) (fun _ R => IW.wr R (Safe.arv W12.al V12 (by decide)) W12.inv) (pc' := 93) (hb hy at_92) rfl ?_
  intro T13 h13 lo13 W13 R13 V13
  refine o_dup W13 (pc' := 94) (hb hy at_93) rfl rfl ?_
  refine o_iconst W13 (v := 2) (pc' := 95) (hb hy at_94) rfl rfl ?_
  refine o_bipush W13 (v := 118) (pc' := 97) (hb hy at_95) (by decide) rfl ?_
  refine o_stC W13 V13 (i := 2) (x' := (118 : Int32)) (by decide) (by decide) (by decide) (Nat.lt_of_sub_eq_succ rfl) (by decide) (vs' := [(.int 105), (.int 110), (.int 118), (.int 0), (.int 0), (.int 0), (.int 0), (.int 0), (.int 0)]) rfl gz11 (Or.inr gb11) (fun _ R => IW.wr R (Safe.arv W13.al V13 (by decide)) W13.inv) (pc' := 98) (hb hy at_97) rfl ?_
  intro T14 h14 lo14 W14 R14 V14
  refine o_dup W14 (pc' := 99) (hb hy at_98) rfl rfl ?_
  refine o_iconst W14 (v := 3) (pc' := 100) (hb hy at_99) rfl rfl ?_
  refine o_bipush W14 (v := 97) (pc' := 102) (hb hy at_100) (by decide) rfl ?_
  refine o_stC W14 V14 (i := 3) (x' := (97 : Int32)) (by decide) (by decide) (by decide) (Nat.lt_of_sub_eq_succ rfl) (by decide) (vs' := [(.int 105), (.int 110), (.int 118), (.int 97), (.int 0), (.int 0), (.int 0), (.int 0), (.int 0)]) rfl gz11 (Or.inr gb11) (fun _ R => IW.wr R (Safe.arv W14.al V14 (by decide)) W14.inv) (pc' := 103) (hb hy at_102) rfl ?_
  intro T15 h15 lo15 W15 R15 V15
  refine o_dup W15 (pc' := 104) (hb hy at_103) rfl rfl ?_
  refine o_iconst W15 (v := 4) (pc' := 105) (hb hy at_104) rfl rfl ?_
  refine o_bipush W15 (v := 108) (pc' := 107) (hb hy at_105) (by decide) rfl ?_
  refine o_stC W15 V15 (i := 4) (x' := (108 : Int32)) (by decide) (by decide) (by decide) (Nat.lt_of_sub_eq_succ rfl) (by decide) (vs' := [(.int 105), (.int 110), (.int 118), (.int 97), (.int 108), (.int 0), (.int 0), (.int 0), (.int 0)]) rfl gz11 (Or.inr gb11) (fun _ R => IW.wr R (Safe.arv W15.al V15 (by decide)) W15.inv) (pc' := 108) (hb hy at_107) rfl ?_
  intro T16 h16 lo16 W16 R16 V16
  refine o_dup W16 (pc' := 109) (hb hy at_108) rfl rfl ?_
  refine o_iconst W16 (v := 5) (pc' := 110) (hb hy at_109) rfl rfl ?_
  refine o_bipush W16 (v := 105) (pc' := 112) (hb hy at_110) (by decide) rfl ?_
  refine o_stC W16 V16 (i := 5) (x' := (105 : Int32)) (by decide) (by decide) (by decide) (Nat.lt_of_sub_eq_succ rfl) (by decide) (vs' := [(.int 105), (.int 110), (.int 118), (.int 97), (.int 108), (.int 105), (.int 0), (.int 0), (.int 0)]) rfl gz11 (Or.inr gb11) (fun _ R => IW.wr R (Safe.arv W16.al V16 (by decide)) W16.inv) (pc' := 113) (hb hy at_112) rfl ?_
  intro T17 h17 lo17 W17 R17 V17
  refine o_dup W17 (pc' := 114) (hb hy at_113) rfl rfl ?_
  refine o_bipush W17 (v := 6) (pc' := 116) (hb hy at_114) (by decide) rfl ?_
  refine o_bipush W17 (v := 100) (pc' := 118) (hb hy at_116) (by decide) rfl ?_
  refine o_stC W17 V17 (i := 6) (x' := (100 : Int32)) (by decide) (by decide) (by decide) (Nat.lt_of_sub_eq_succ rfl) (by decide) (vs' := [(.int 105), (.int 110), (.int 118), (.int 97), (.int 108), (.int 105), (.int 100), (.int 0), (.int 0)]) rfl gz11 (Or.inr gb11) (fun _ R => IW.wr R (Safe.arv W17.al V17 (by decide)) W17.inv) (pc' := 119) (hb hy at_118) rfl ?_
  intro T18 h18 lo18 W18 R18 V18
  refine o_dup W18 (pc' := 120) (hb hy at_119) rfl rfl ?_
  refine o_bipush W18 (v := 7) (pc' := 122) (hb hy at_120) (by decide) rfl ?_
  refine o_bipush W18 (v := 58) (pc' := 124) (hb hy at_122) (by decide) rfl ?_
  refine o_stC W18 V18 (i := 7) (x' := (58 : Int32)) (by decide) (by decide) (by decide) (Nat.lt_of_sub_eq_succ rfl) (by decide) (vs' := [(.int 105), (.int 110), (.int 118), (.int 97), (.int 108), (.int 105), (.int 100), (.int 58), (.int 0)]) rfl gz11 (Or.inr gb11) (fun _ R => IW.wr R (Safe.arv W18.al V18 (by decide)) W18.inv) (pc' := 125) (hb hy at_124) rfl ?_
  intro T19 h19 lo19 W19 R19 V19
  refine o_dup W19 (pc' := 126) (hb hy at_125) rfl rfl ?_
  refine o_bipush W19 (v := 8) (pc' := 128) (hb hy at_126) (by decide) rfl ?_
  refine o_bipush W19 (v := 32) (pc' := 130) (hb hy at_128) (by decide) rfl ?_
  refine o_stC W19 V19 (i := 8) (x' := (32 : Int32)) (by decide) (by decide) (by decide) (Nat.lt_of_sub_eq_succ rfl) (by decide) (vs' := [(.int 105), (.int 110), (.int 118), (.int 97), (.int 108), (.int 105), (.int 100), (.int 58), (.int 32)]) rfl gz11 (Or.inr gb11) (fun _ R => IW.wr R (Safe.arv W19.al V19 (by decide)) W19.inv) (pc' := 131) (hb hy at_130) rfl ?_
  intro T20 h20 lo20 W20 R20 V20
  refine o_astore W20 (L' := #[.val (.int p0), .val (.int p1), .val (.int p2), .val (.int p3), .val (.int (p1 &&& (255 : Int32))), .val (.int (p2 &&& (255 : Int32))), .val (.int (p3 &&& (255 : Int32))), .val (.int (p0 &&& (3 : Int32))), .val (.ref b1), .val (.ref b2), .val (.ref b4), .val (.ref b7), .val (.ref b11), .unset, .unset, .unset, .unset, .unset, .unset, .unset]) (pc' := 133) (hb hy at_131) rfl rfl rfl ?_
  refine o_bipush W20 (v := 10) (pc' := 135) (hb hy at_133) (by decide) rfl ?_
  refine o_newP W20 (aty := .char) (w0 hw) (fun _ E => IW.ext E W20.inv) (by decide) (cap := 10) (by decide) (by decide) (pc' := 137) (hb hy at_135) rfl (cells' := 6) (slots' := 25) rfl rfl (by decide) (by decide) (vs := [(.int 0), (.int 0), (.int 0), (.int 0), (.int 0), (.int 0), (.int 0), (.int 0), (.int 0), (.int 0)]) (dv := (.int 0)) rfl rfl ?_
  intro b21 T21 h21 k21 W21 E21 ge21 gz21 gb21 V21
  refine o_dup W21 (pc' := 138) (hb hy at_137) rfl rfl ?_
  refine o_iconst W21 (v := 0) (pc' := 139) (hb hy at_138) rfl rfl ?_
  refine o_bipush W21 (v := 105) (pc' := 141) (hb hy at_139) (by decide) rfl ?_
  refine o_stC W21 V21 (i := 0) (x' := (105 : Int32)) (by decide) (by decide) (by decide) (Nat.lt_of_sub_eq_succ rfl) (by decide) (vs' := [(.int 105), (.int 0), (.int 0), (.int 0), (.int 0), (.int 0), (.int 0), (.int 0), (.int 0), (.int 0)]) rfl gz21 (Or.inr gb21) (fun _ R => IW.wr R (Safe.arv W21.al V21 (by decide)) W21.inv) (pc' := 142) (hb hy at_141) rfl ?_
  intro T22 h22 lo22 W22 R22 V22
  refine o_dup W22 (pc' := 143) (hb hy at_142) rfl rfl ?_
  refine o_iconst W22 (v := 1) (pc' := 144) (hb hy at_143) rfl rfl ?_
  refine o_bipush W22 (v := 110) (pc' := 146) (hb hy at_144) (by decide) rfl ?_
  refine o_stC W22 V22 (i := 1) (x' := (110 : Int32)) (by decide) (by decide) (by decide) (Nat.lt_of_sub_eq_succ rfl) (by decide) (vs' := [(.int 105), (.int 110), (.int 0), (.int 0), (.int 0), (.int 0), (.int 0), (.int 0), (.int 0), (.int 0)]) rfl gz21 (Or.inr gb21) (fun _ R => IW.wr R (Safe.arv W22.al V22 (by decide)) W22.inv) (pc' := 147) (hb hy at_146) rfl ?_
  intro T23 h23 lo23 W23 R23 V23
  refine o_dup W23 (pc' := 148) (hb hy at_147) rfl rfl ?_
  refine o_iconst W23 (v := 2) (pc' := 149) (hb hy at_148) rfl rfl ?_
  refine o_bipush W23 (v := 118) (pc' := 151) (hb hy at_149) (by decide) rfl ?_
  refine o_stC W23 V23 (i := 2) (x' := (118 : Int32)) (by decide) (by decide) (by decide) (Nat.lt_of_sub_eq_succ rfl) (by decide) (vs' := [(.int 105), (.int 110), (.int 118), (.int 0), (.int 0), (.int 0), (.int 0), (.int 0), (.int 0), (.int 0)]) rfl gz21 (Or.inr gb21) (fun _ R => IW.wr R (Safe.arv W23.al V23 (by decide)) W23.inv) (pc' := 152) (hb hy at_151) rfl ?_
  intro T24 h24 lo24 W24 R24 V24
  refine o_dup W24 (pc' := 153) (hb hy at_152) rfl rfl ?_
  refine o_iconst W24 (v := 3) (pc' := 154) (hb hy at_153) rfl rfl ?_
  refine o_bipush W24 (v := 97) (pc' := 156) (hb hy at_154) (by decide) rfl ?_
  refine o_stC W24 V24 (i := 3) (x' := (97 : Int32)) (by decide) (by decide) (by decide) (Nat.lt_of_sub_eq_succ rfl) (by decide) (vs' := [(.int 105), (.int 110), (.int 118), (.int 97), (.int 0), (.int 0), (.int 0), (.int 0), (.int 0), (.int 0)]) rfl gz21 (Or.inr gb21) (fun _ R => IW.wr R (Safe.arv W24.al V24 (by decide)) W24.inv) (pc' := 157) (hb hy at_156) rfl ?_
  intro T25 h25 lo25 W25 R25 V25
  refine o_dup W25 (pc' := 158) (hb hy at_157) rfl rfl ?_
  refine o_iconst W25 (v := 4) (pc' := 159) (hb hy at_158) rfl rfl ?_
  refine o_bipush W25 (v := 108) (pc' := 161) (hb hy at_159) (by decide) rfl ?_
  refine o_stC W25 V25 (i := 4) (x' := (108 : Int32)) (by decide) (by decide) (by decide) (Nat.lt_of_sub_eq_succ rfl) (by decide) (vs' := [(.int 105), (.int 110), (.int 118), (.int 97), (.int 108), (.int 0), (.int 0), (.int 0), (.int 0), (.int 0)]) rfl gz21 (Or.inr gb21) (fun _ R => IW.wr R (Safe.arv W25.al V25 (by decide)) W25.inv) (pc' := 162) (hb hy at_161) rfl ?_
  intro T26 h26 lo26 W26 R26 V26
  refine o_dup W26 (pc' := 163) (hb hy at_162) rfl rfl ?_
  refine o_iconst W26 (v := 5) (pc' := 164) (hb hy at_163) rfl rfl ?_
  refine o_bipush W26 (v := 105) (pc' := 166) (hb hy at_164) (by decide) rfl ?_
  refine o_stC W26 V26 (i := 5) (x' := (105 : Int32)) (by decide) (by decide) (by decide) (Nat.lt_of_sub_eq_succ rfl) (by decide) (vs' := [(.int 105), (.int 110), (.int 118), (.int 97), (.int 108), (.int 105), (.int 0), (.int 0), (.int 0), (.int 0)]) rfl gz21 (Or.inr gb21) (fun _ R => IW.wr R (Safe.arv W26.al V26 (by decide)) W26.inv) (pc' := 167) (hb hy at_166) rfl ?_
  intro T27 h27 lo27 W27 R27 V27
  refine o_dup W27 (pc' := 168) (hb hy at_167) rfl rfl ?_
  refine o_bipush W27 (v := 6) (pc' := 170) (hb hy at_168) (by decide) rfl ?_
  refine o_bipush W27 (v := 100) (pc' := 172) (hb hy at_170) (by decide) rfl ?_
  refine o_stC W27 V27 (i := 6) (x' := (100 : Int32)) (by decide) (by decide) (by decide) (Nat.lt_of_sub_eq_succ rfl) (by decide) (vs' := [(.int 105), (.int 110), (.int 118), (.int 97), (.int 108), (.int 105), (.int 100), (.int 0), (.int 0), (.int 0)]) rfl gz21 (Or.inr gb21) (fun _ R => IW.wr R (Safe.arv W27.al V27 (by decide)) W27.inv) (pc' := 173) (hb hy at_172) rfl ?_
  intro T28 h28 lo28 W28 R28 V28
  refine o_dup W28 (pc' := 174) (hb hy at_173) rfl rfl ?_
  refine o_bipush W28 (v := 7) (pc' := 176) (hb hy at_174) (by decide) rfl ?_
  refine o_bipush W28 (v := 58) (pc' := 178) (hb hy at_176) (by decide) rfl ?_
  refine o_stC W28 V28 (i := 7) (x' := (58 : Int32)) (by decide) (by decide) (by decide) (Nat.lt_of_sub_eq_succ rfl) (by decide) (vs' := [(.int 105), (.int 110), (.int 118), (.int 97), (.int 108), (.int 105), (.int 100), (.int 58), (.int 0), (.int 0)]) rfl gz21 (Or.inr gb21) (fun _ R => IW.wr R (Safe.arv W28.al V28 (by decide)) W28.inv) (pc' := 179) (hb hy at_178) rfl ?_
  intro T29 h29 lo29 W29 R29 V29
  refine o_dup W29 (pc' := 180) (hb hy at_179) rfl rfl ?_
  refine o_bipush W29 (v := 8) (pc' := 182) (hb hy at_180) (by decide) rfl ?_
  refine o_bipush W29 (v := 32) (pc' := 184) (hb hy at_182) (by decide) rfl ?_
  refine o_stC W29 V29 (i := 8) (x' := (32 : Int32)) (by decide) (by decide) (by decide) (Nat.lt_of_sub_eq_succ rfl) (by decide) (vs' := [(.int 105), (.int 110), (.int 118), (.int 97), (.int 108), (.int 105), (.int 100), (.int 58), (.int 32), (.int 0)]) rfl gz21 (Or.inr gb21) (fun _ R => IW.wr R (Safe.arv W29.al V29 (by decide)) W29.inv) (pc' := 185) (hb hy at_184) rfl ?_
  intro T30 h30 lo30 W30 R30 V30
  refine o_dup W30 (pc' := 186) (hb hy at_185) rfl rfl ?_
  refine o_bipush W30 (v := 9) (pc' := 188) (hb hy at_186) (by decide) rfl ?_
  refine o_iload W30 (pc' := 190) (hb hy at_188) rfl rfl ?_
  refine o_stC W30 V30 (i := 9) (x' := (p1 &&& (255 : Int32))) (by decide) (by decide) (by decide) (Nat.lt_of_sub_eq_succ rfl) (own_i2c (own_b255 _)) (vs' := [(.int 105), (.int 110), (.int 118), (.int 97), (.int 108), (.int 105), (.int 100), (.int 58), (.int 32), (.int (p1 &&& (255 : Int32)))]) rfl gz21 (Or.inr gb21) (fun _ R => IW.wr R (Safe.arv W30.al V30 (by decide)) W30.inv) (pc' := 191) (hb hy at_190) rfl ?_
  intro T31 h31 lo31 W31 R31 V31
  refine o_astore W31 (L' := #[.val (.int p0), .val (.int p1), .val (.int p2), .val (.int p3), .val (.int (p1 &&& (255 : Int32))), .val (.int (p2 &&& (255 : Int32))), .val (.int (p3 &&& (255 : Int32))), .val (.int (p0 &&& (3 : Int32))), .val (.ref b1), .val (.ref b2), .val (.ref b4), .val (.ref b7), .val (.ref b11), .val (.ref b21), .unset, .unset, .unset, .unset, .unset, .unset]) (pc' := 193) (hb hy at_191) rfl rfl rfl ?_
  refine o_bipush W31 (v := 11) (pc' := 195) (hb hy at_193) (by decide) rfl ?_
  refine o_newP W31 (aty := .char) (w0 hw) (fun _ E => IW.ext E W31.inv) (by decide) (cap := 11) (by decide) (by decide) (pc' := 197) (hb hy at_195) rfl (cells' := 7) (slots' := 36) rfl rfl (by decide) (by decide) (vs := [(.int 0), (.int 0), (.int 0), (.int 0), (.int 0), (.int 0), (.int 0), (.int 0), (.int 0), (.int 0), (.int 0)]) (dv := (.int 0)) rfl rfl ?_
  intro b32 T32 h32 k32 W32 E32 ge32 gz32 gb32 V32
  refine o_dup W32 (pc' := 198) (hb hy at_197) rfl rfl ?_
  refine o_iconst W32 (v := 0) (pc' := 199) (hb hy at_198) rfl rfl ?_
  refine o_bipush W32 (v := 105) (pc' := 201) (hb hy at_199) (by decide) rfl ?_
  refine o_stC W32 V32 (i := 0) (x' := (105 : Int32)) (by decide) (by decide) (by decide) (Nat.lt_of_sub_eq_succ rfl) (by decide) (vs' := [(.int 105), (.int 0), (.int 0), (.int 0), (.int 0), (.int 0), (.int 0), (.int 0), (.int 0), (.int 0), (.int 0)]) rfl gz32 (Or.inr gb32) (fun _ R => IW.wr R (Safe.arv W32.al V32 (by decide)) W32.inv) (pc' := 202) (hb hy at_201) rfl ?_
  intro T33 h33 lo33 W33 R33 V33
  refine o_dup W33 (pc' := 203) (hb hy at_202) rfl rfl ?_
  refine o_iconst W33 (v := 1) (pc' := 204) (hb hy at_203) rfl rfl ?_
  refine o_bipush W33 (v := 110) (pc' := 206) (hb hy at_204) (by decide) rfl ?_
  refine o_stC W33 V33 (i := 1) (x' := (110 : Int32)) (by decide) (by decide) (by decide) (Nat.lt_of_sub_eq_succ rfl) (by decide) (vs' := [(.int 105), (.int 110), (.int 0), (.int 0), (.int 0), (.int 0), (.int 0), (.int 0), (.int 0), (.int 0), (.int 0)]) rfl gz32 (Or.inr gb32) (fun _ R => IW.wr R (Safe.arv W33.al V33 (by decide)) W33.inv) (pc' := 207) (hb hy at_206) rfl ?_
  intro T34 h34 lo34 W34 R34 V34
  refine o_dup W34 (pc' := 208) (hb hy at_207) rfl rfl ?_
  refine o_iconst W34 (v := 2) (pc' := 209) (hb hy at_208) rfl rfl ?_
  refine o_bipush W34 (v := 118) (pc' := 211) (hb hy at_209) (by decide) rfl ?_
  refine o_stC W34 V34 (i := 2) (x' := (118 : Int32)) (by decide) (by decide) (by decide) (Nat.lt_of_sub_eq_succ rfl) (by decide) (vs' := [(.int 105), (.int 110), (.int 118), (.int 0), (.int 0), (.int 0), (.int 0), (.int 0), (.int 0), (.int 0), (.int 0)]) rfl gz32 (Or.inr gb32) (fun _ R => IW.wr R (Safe.arv W34.al V34 (by decide)) W34.inv) (pc' := 212) (hb hy at_211) rfl ?_
  intro T35 h35 lo35 W35 R35 V35
  refine o_dup W35 (pc' := 213) (hb hy at_212) rfl rfl ?_
  refine o_iconst W35 (v := 3) (pc' := 214) (hb hy at_213) rfl rfl ?_
  refine o_bipush W35 (v := 97) (pc' := 216) (hb hy at_214) (by decide) rfl ?_
  refine o_stC W35 V35 (i := 3) (x' := (97 : Int32)) (by decide) (by decide) (by decide) (Nat.lt_of_sub_eq_succ rfl) (by decide) (vs' := [(.int 105), (.int 110), (.int 118), (.int 97), (.int 0), (.int 0), (.int 0), (.int 0), (.int 0), (.int 0), (.int 0)]) rfl gz32 (Or.inr gb32) (fun _ R => IW.wr R (Safe.arv W35.al V35 (by decide)) W35.inv) (pc' := 217) (hb hy at_216) rfl ?_
  intro T36 h36 lo36 W36 R36 V36
  refine o_dup W36 (pc' := 218) (hb hy at_217) rfl rfl ?_
  refine o_iconst W36 (v := 4) (pc' := 219) (hb hy at_218) rfl rfl ?_
  refine o_bipush W36 (v := 108) (pc' := 221) (hb hy at_219) (by decide) rfl ?_
  refine o_stC W36 V36 (i := 4) (x' := (108 : Int32)) (by decide) (by decide) (by decide) (Nat.lt_of_sub_eq_succ rfl) (by decide) (vs' := [(.int 105), (.int 110), (.int 118), (.int 97), (.int 108), (.int 0), (.int 0), (.int 0), (.int 0), (.int 0), (.int 0)]) rfl gz32 (Or.inr gb32) (fun _ R => IW.wr R (Safe.arv W36.al V36 (by decide)) W36.inv) (pc' := 222) (hb hy at_221) rfl ?_
  intro T37 h37 lo37 W37 R37 V37
  refine o_dup W37 (pc' := 223) (hb hy at_222) rfl rfl ?_
  refine o_iconst W37 (v := 5) (pc' := 224) (hb hy at_223) rfl rfl ?_
  refine o_bipush W37 (v := 105) (pc' := 226) (hb hy at_224) (by decide) rfl ?_
  refine o_stC W37 V37 (i := 5) (x' := (105 : Int32)) (by decide) (by decide) (by decide) (Nat.lt_of_sub_eq_succ rfl) (by decide) (vs' := [(.int 105), (.int 110), (.int 118), (.int 97), (.int 108), (.int 105), (.int 0), (.int 0), (.int 0), (.int 0), (.int 0)]) rfl gz32 (Or.inr gb32) (fun _ R => IW.wr R (Safe.arv W37.al V37 (by decide)) W37.inv) (pc' := 227) (hb hy at_226) rfl ?_
  intro T38 h38 lo38 W38 R38 V38
  refine o_dup W38 (pc' := 228) (hb hy at_227) rfl rfl ?_
  refine o_bipush W38 (v := 6) (pc' := 230) (hb hy at_228) (by decide) rfl ?_
  refine o_bipush W38 (v := 100) (pc' := 232) (hb hy at_230) (by decide) rfl ?_
  refine o_stC W38 V38 (i := 6) (x' := (100 : Int32)) (by decide) (by decide) (by decide) (Nat.lt_of_sub_eq_succ rfl) (by decide) (vs' := [(.int 105), (.int 110), (.int 118), (.int 97), (.int 108), (.int 105), (.int 100), (.int 0), (.int 0), (.int 0), (.int 0)]) rfl gz32 (Or.inr gb32) (fun _ R => IW.wr R (Safe.arv W38.al V38 (by decide)) W38.inv) (pc' := 233) (hb hy at_232) rfl ?_
  intro T39 h39 lo39 W39 R39 V39
  refine o_dup W39 (pc' := 234) (hb hy at_233) rfl rfl ?_
  refine o_bipush W39 (v := 7) (pc' := 236) (hb hy at_234) (by decide) rfl ?_
  refine o_bipush W39 (v := 58) (pc' := 238) (hb hy at_236) (by decide) rfl ?_
  refine o_stC W39 V39 (i := 7) (x' := (58 : Int32)) (by decide) (by decide) (by decide) (Nat.lt_of_sub_eq_succ rfl) (by decide) (vs' := [(.int 105), (.int 110), (.int 118), (.int 97), (.int 108), (.int 105), (.int 100), (.int 58), (.int 0), (.int 0), (.int 0)]) rfl gz32 (Or.inr gb32) (fun _ R => IW.wr R (Safe.arv W39.al V39 (by decide)) W39.inv) (pc' := 239) (hb hy at_238) rfl ?_
  intro T40 h40 lo40 W40 R40 V40
  refine o_dup W40 (pc' := 240) (hb hy at_239) rfl rfl ?_
  refine o_bipush W40 (v := 8) (pc' := 242) (hb hy at_240) (by decide) rfl ?_
  refine o_bipush W40 (v := 32) (pc' := 244) (hb hy at_242) (by decide) rfl ?_
  refine o_stC W40 V40 (i := 8) (x' := (32 : Int32)) (by decide) (by decide) (by decide) (Nat.lt_of_sub_eq_succ rfl) (by decide) (vs' := [(.int 105), (.int 110), (.int 118), (.int 97), (.int 108), (.int 105), (.int 100), (.int 58), (.int 32), (.int 0), (.int 0)]) rfl gz32 (Or.inr gb32) (fun _ R => IW.wr R (Safe.arv W40.al V40 (by decide)) W40.inv) (pc' := 245) (hb hy at_244) rfl ?_
  intro T41 h41 lo41 W41 R41 V41
  refine o_dup W41 (pc' := 246) (hb hy at_245) rfl rfl ?_
  refine o_bipush W41 (v := 9) (pc' := 248) (hb hy at_246) (by decide) rfl ?_
  refine o_iload W41 (pc' := 250) (hb hy at_248) rfl rfl ?_
  refine o_stC W41 V41 (i := 9) (x' := (p1 &&& (255 : Int32))) (by decide) (by decide) (by decide) (Nat.lt_of_sub_eq_succ rfl) (own_i2c (own_b255 _)) (vs' := [(.int 105), (.int 110), (.int 118), (.int 97), (.int 108), (.int 105), (.int 100), (.int 58), (.int 32), (.int (p1 &&& (255 : Int32))), (.int 0)]) rfl gz32 (Or.inr gb32) (fun _ R => IW.wr R (Safe.arv W41.al V41 (by decide)) W41.inv) (pc' := 251) (hb hy at_250) rfl ?_
  intro T42 h42 lo42 W42 R42 V42
  refine o_dup W42 (pc' := 252) (hb hy at_251) rfl rfl ?_
  refine o_bipush W42 (v := 10) (pc' := 254) (hb hy at_252) (by decide) rfl ?_
  refine o_iload W42 (pc' := 256) (hb hy at_254) rfl rfl ?_
  refine o_stC W42 V42 (i := 10) (x' := (p2 &&& (255 : Int32))) (by decide) (by decide) (by decide) (Nat.lt_of_sub_eq_succ rfl) (own_i2c (own_b255 _)) (vs' := [(.int 105), (.int 110), (.int 118), (.int 97), (.int 108), (.int 105), (.int 100), (.int 58), (.int 32), (.int (p1 &&& (255 : Int32))), (.int (p2 &&& (255 : Int32)))]) rfl gz32 (Or.inr gb32) (fun _ R => IW.wr R (Safe.arv W42.al V42 (by decide)) W42.inv) (pc' := 257) (hb hy at_256) rfl ?_
  intro T43 h43 lo43 W43 R43 V43
  refine o_astore W43 (L' := #[.val (.int p0), .val (.int p1), .val (.int p2), .val (.int p3), .val (.int (p1 &&& (255 : Int32))), .val (.int (p2 &&& (255 : Int32))), .val (.int (p3 &&& (255 : Int32))), .val (.int (p0 &&& (3 : Int32))), .val (.ref b1), .val (.ref b2), .val (.ref b4), .val (.ref b7), .val (.ref b11), .val (.ref b21), .val (.ref b32), .unset, .unset, .unset, .unset, .unset]) (pc' := 259) (hb hy at_257) rfl rfl rfl ?_
  refine o_bipush W43 (v := 12) (pc' := 261) (hb hy at_259) (by decide) rfl ?_
  refine o_newP W43 (aty := .char) (w0 hw) (fun _ E => IW.ext E W43.inv) (by decide) (cap := 12) (by decide) (by decide) (pc' := 263) (hb hy at_261) rfl (cells' := 8) (slots' := 48) rfl rfl (by decide) (by decide) (vs := [(.int 0), (.int 0), (.int 0), (.int 0), (.int 0), (.int 0), (.int 0), (.int 0), (.int 0), (.int 0), (.int 0), (.int 0)]) (dv := (.int 0)) rfl rfl ?_
  intro b44 T44 h44 k44 W44 E44 ge44 gz44 gb44 V44
  refine o_dup W44 (pc' := 264) (hb hy at_263) rfl rfl ?_
  refine o_iconst W44 (v := 0) (pc' := 265) (hb hy at_264) rfl rfl ?_
  refine o_bipush W44 (v := 105) (pc' := 267) (hb hy at_265) (by decide) rfl ?_
  refine o_stC W44 V44 (i := 0) (x' := (105 : Int32)) (by decide) (by decide) (by decide) (Nat.lt_of_sub_eq_succ rfl) (by decide) (vs' := [(.int 105), (.int 0), (.int 0), (.int 0), (.int 0), (.int 0), (.int 0), (.int 0), (.int 0), (.int 0), (.int 0), (.int 0)]) rfl gz44 (Or.inr gb44) (fun _ R => IW.wr R (Safe.arv W44.al V44 (by decide)) W44.inv) (pc' := 268) (hb hy at_267) rfl ?_
  intro T45 h45 lo45 W45 R45 V45
  refine o_dup W45 (pc' := 269) (hb hy at_268) rfl rfl ?_
  refine o_iconst W45 (v := 1) (pc' := 270) (hb hy at_269) rfl rfl ?_
  refine o_bipush W45 (v := 110) (pc' := 272) (hb hy at_270) (by decide) rfl ?_
  refine o_stC W45 V45 (i := 1) (x' := (110 : Int32)) (by decide) (by decide) (by decide) (Nat.lt_of_sub_eq_succ rfl) (by decide) (vs' := [(.int 105), (.int 110), (.int 0), (.int 0), (.int 0), (.int 0), (.int 0), (.int 0), (.int 0), (.int 0), (.int 0), (.int 0)]) rfl gz44 (Or.inr gb44) (fun _ R => IW.wr R (Safe.arv W45.al V45 (by decide)) W45.inv) (pc' := 273) (hb hy at_272) rfl ?_
  intro T46 h46 lo46 W46 R46 V46
  refine o_dup W46 (pc' := 274) (hb hy at_273) rfl rfl ?_
  refine o_iconst W46 (v := 2) (pc' := 275) (hb hy at_274) rfl rfl ?_
  refine o_bipush W46 (v := 118) (pc' := 277) (hb hy at_275) (by decide) rfl ?_
  refine o_stC W46 V46 (i := 2) (x' := (118 : Int32)) (by decide) (by decide) (by decide) (Nat.lt_of_sub_eq_succ rfl) (by decide) (vs' := [(.int 105), (.int 110), (.int 118), (.int 0), (.int 0), (.int 0), (.int 0), (.int 0), (.int 0), (.int 0), (.int 0), (.int 0)]) rfl gz44 (Or.inr gb44) (fun _ R => IW.wr R (Safe.arv W46.al V46 (by decide)) W46.inv) (pc' := 278) (hb hy at_277) rfl ?_
  intro T47 h47 lo47 W47 R47 V47
  refine o_dup W47 (pc' := 279) (hb hy at_278) rfl rfl ?_
  refine o_iconst W47 (v := 3) (pc' := 280) (hb hy at_279) rfl rfl ?_
  refine o_bipush W47 (v := 97) (pc' := 282) (hb hy at_280) (by decide) rfl ?_
  refine o_stC W47 V47 (i := 3) (x' := (97 : Int32)) (by decide) (by decide) (by decide) (Nat.lt_of_sub_eq_succ rfl) (by decide) (vs' := [(.int 105), (.int 110), (.int 118), (.int 97), (.int 0), (.int 0), (.int 0), (.int 0), (.int 0), (.int 0), (.int 0), (.int 0)]) rfl gz44 (Or.inr gb44) (fun _ R => IW.wr R (Safe.arv W47.al V47 (by decide)) W47.inv) (pc' := 283) (hb hy at_282) rfl ?_
  intro T48 h48 lo48 W48 R48 V48
  refine o_dup W48 (pc' := 284) (hb hy at_283) rfl rfl ?_
  refine o_iconst W48 (v := 4) (pc' := 285) (hb hy at_284) rfl rfl ?_
  refine o_bipush W48 (v := 108) (pc' := 287) (hb hy at_285) (by decide) rfl ?_
  refine o_stC W48 V48 (i := 4) (x' := (108 : Int32)) (by decide) (by decide) (by decide) (Nat.lt_of_sub_eq_succ rfl) (by decide) (vs' := [(.int 105), (.int 110), (.int 118), (.int 97), (.int 108), (.int 0), (.int 0), (.int 0), (.int 0), (.int 0), (.int 0), (.int 0)]) rfl gz44 (Or.inr gb44) (fun _ R => IW.wr R (Safe.arv W48.al V48 (by decide)) W48.inv) (pc' := 288) (hb hy at_287) rfl ?_
  intro T49 h49 lo49 W49 R49 V49
  refine o_dup W49 (pc' := 289) (hb hy at_288) rfl rfl ?_
  refine o_iconst W49 (v := 5) (pc' := 290) (hb hy at_289) rfl rfl ?_
  refine o_bipush W49 (v := 105) (pc' := 292) (hb hy at_290) (by decide) rfl ?_
  refine o_stC W49 V49 (i := 5) (x' := (105 : Int32)) (by decide) (by decide) (by decide) (Nat.lt_of_sub_eq_succ rfl) (by decide) (vs' := [(.int 105), (.int 110), (.int 118), (.int 97), (.int 108), (.int 105), (.int 0), (.int 0), (.int 0), (.int 0), (.int 0), (.int 0)]) rfl gz44 (Or.inr gb44) (fun _ R => IW.wr R (Safe.arv W49.al V49 (by decide)) W49.inv) (pc' := 293) (hb hy at_292) rfl ?_
  intro T50 h50 lo50 W50 R50 V50
  refine o_dup W50 (pc' := 294) (hb hy at_293) rfl rfl ?_
  refine o_bipush W50 (v := 6) (pc' := 296) (hb hy at_294) (by decide) rfl ?_
  refine o_bipush W50 (v := 100) (pc' := 298) (hb hy at_296) (by decide) rfl ?_
  refine o_stC W50 V50 (i := 6) (x' := (100 : Int32)) (by decide) (by decide) (by decide) (Nat.lt_of_sub_eq_succ rfl) (by decide) (vs' := [(.int 105), (.int 110), (.int 118), (.int 97), (.int 108), (.int 105), (.int 100), (.int 0), (.int 0), (.int 0), (.int 0), (.int 0)]) rfl gz44 (Or.inr gb44) (fun _ R => IW.wr R (Safe.arv W50.al V50 (by decide)) W50.inv) (pc' := 299) (hb hy at_298) rfl ?_
  intro T51 h51 lo51 W51 R51 V51
  refine o_dup W51 (pc' := 300) (hb hy at_299) rfl rfl ?_
  refine o_bipush W51 (v := 7) (pc' := 302) (hb hy at_300) (by decide) rfl ?_
  refine o_bipush W51 (v := 58) (pc' := 304) (hb hy at_302) (by decide) rfl ?_
  refine o_stC W51 V51 (i := 7) (x' := (58 : Int32)) (by decide) (by decide) (by decide) (Nat.lt_of_sub_eq_succ rfl) (by decide) (vs' := [(.int 105), (.int 110), (.int 118), (.int 97), (.int 108), (.int 105), (.int 100), (.int 58), (.int 0), (.int 0), (.int 0), (.int 0)]) rfl gz44 (Or.inr gb44) (fun _ R => IW.wr R (Safe.arv W51.al V51 (by decide)) W51.inv) (pc' := 305) (hb hy at_304) rfl ?_
  intro T52 h52 lo52 W52 R52 V52
  refine o_dup W52 (pc' := 306) (hb hy at_305) rfl rfl ?_
  refine o_bipush W52 (v := 8) (pc' := 308) (hb hy at_306) (by decide) rfl ?_
  refine o_bipush W52 (v := 32) (pc' := 310) (hb hy at_308) (by decide) rfl ?_
  refine o_stC W52 V52 (i := 8) (x' := (32 : Int32)) (by decide) (by decide) (by decide) (Nat.lt_of_sub_eq_succ rfl) (by decide) (vs' := [(.int 105), (.int 110), (.int 118), (.int 97), (.int 108), (.int 105), (.int 100), (.int 58), (.int 32), (.int 0), (.int 0), (.int 0)]) rfl gz44 (Or.inr gb44) (fun _ R => IW.wr R (Safe.arv W52.al V52 (by decide)) W52.inv) (pc' := 311) (hb hy at_310) rfl ?_
  intro T53 h53 lo53 W53 R53 V53
  refine o_dup W53 (pc' := 312) (hb hy at_311) rfl rfl ?_
  refine o_bipush W53 (v := 9) (pc' := 314) (hb hy at_312) (by decide) rfl ?_
  refine o_iload W53 (pc' := 316) (hb hy at_314) rfl rfl ?_
  refine o_stC W53 V53 (i := 9) (x' := (p1 &&& (255 : Int32))) (by decide) (by decide) (by decide) (Nat.lt_of_sub_eq_succ rfl) (own_i2c (own_b255 _)) (vs' := [(.int 105), (.int 110), (.int 118), (.int 97), (.int 108), (.int 105), (.int 100), (.int 58), (.int 32), (.int (p1 &&& (255 : Int32))), (.int 0), (.int 0)]) rfl gz44 (Or.inr gb44) (fun _ R => IW.wr R (Safe.arv W53.al V53 (by decide)) W53.inv) (pc' := 317) (hb hy at_316) rfl ?_
  intro T54 h54 lo54 W54 R54 V54
  refine o_dup W54 (pc' := 318) (hb hy at_317) rfl rfl ?_
  refine o_bipush W54 (v := 10) (pc' := 320) (hb hy at_318) (by decide) rfl ?_
  refine o_iload W54 (pc' := 322) (hb hy at_320) rfl rfl ?_
  refine o_stC W54 V54 (i := 10) (x' := (p2 &&& (255 : Int32))) (by decide) (by decide) (by decide) (Nat.lt_of_sub_eq_succ rfl) (own_i2c (own_b255 _)) (vs' := [(.int 105), (.int 110), (.int 118), (.int 97), (.int 108), (.int 105), (.int 100), (.int 58), (.int 32), (.int (p1 &&& (255 : Int32))), (.int (p2 &&& (255 : Int32))), (.int 0)]) rfl gz44 (Or.inr gb44) (fun _ R => IW.wr R (Safe.arv W54.al V54 (by decide)) W54.inv) (pc' := 323) (hb hy at_322) rfl ?_
  intro T55 h55 lo55 W55 R55 V55
  refine o_dup W55 (pc' := 324) (hb hy at_323) rfl rfl ?_
  refine o_bipush W55 (v := 11) (pc' := 326) (hb hy at_324) (by decide) rfl ?_
  refine o_iload W55 (pc' := 328) (hb hy at_326) rfl rfl ?_
  refine o_stC W55 V55 (i := 11) (x' := (p3 &&& (255 : Int32))) (by decide) (by decide) (by decide) (Nat.lt_of_sub_eq_succ rfl) (own_i2c (own_b255 _)) (vs' := [(.int 105), (.int 110), (.int 118), (.int 97), (.int 108), (.int 105), (.int 100), (.int 58), (.int 32), (.int (p1 &&& (255 : Int32))), (.int (p2 &&& (255 : Int32))), (.int (p3 &&& (255 : Int32)))]) rfl gz44 (Or.inr gb44) (fun _ R => IW.wr R (Safe.arv W55.al V55 (by decide)) W55.inv) (pc' := 329) (hb hy at_328) rfl ?_
  intro T56 h56 lo56 W56 R56 V56
  refine o_astore W56 (L' := #[.val (.int p0), .val (.int p1), .val (.int p2), .val (.int p3), .val (.int (p1 &&& (255 : Int32))), .val (.int (p2 &&& (255 : Int32))), .val (.int (p3 &&& (255 : Int32))), .val (.int (p0 &&& (3 : Int32))), .val (.ref b1), .val (.ref b2), .val (.ref b4), .val (.ref b7), .val (.ref b11), .val (.ref b21), .val (.ref b32), .val (.ref b44), .unset, .unset, .unset, .unset]) (pc' := 331) (hb hy at_329) rfl rfl rfl ?_
  refine o_iload W56 (pc' := 333) (hb hy at_331) rfl rfl ?_
  rcases (Classical.em ((p0 &&& (3 : Int32)) = (0 : Int32))).symm with hq57 | hq57
  · refine o_ifY W56 (pc' := 361) (hb hy at_333) (XT.i0_ne_t hq57) (by decide) rfl ?_
    refine o_iload W56 (pc' := 363) (hb hy at_361) rfl rfl ?_
    refine o_iconst W56 (v := 1) (pc' := 364) (hb hy at_363) rfl rfl ?_
    rcases (Classical.em ((p0 &&& (3 : Int32)) = (1 : Int32))).symm with hq58 | hq58
    · refine o_icmpY W56 (pc' := 392) (hb hy at_364) (XT.ii_ne_t hq58) (by decide) rfl ?_
      refine o_iload W56 (pc' := 394) (hb hy at_392) rfl rfl ?_
      refine o_iconst W56 (v := 2) (pc' := 395) (hb hy at_394) rfl rfl ?_
      rcases (Classical.em ((p0 &&& (3 : Int32)) = (2 : Int32))).symm with hq59 | hq59
      · refine o_icmpY W56 (pc' := 423) (hb hy at_395) (XT.ii_ne_t hq59) (by decide) rfl ?_
        refine o_new W56 (w1 hw) (w2 hw) (w3 hw) (fun _ E => IW.ext E W56.inv) (pc' := 426) (hb hy at_423) rfl (cells' := 9) (slots' := 52) rfl rfl (by decide) (by decide) ?_
        intro b60 T60 h60 W60 E60 ge60 gz60 gb60 A60 D60
        have Fb60_value : Fld Z h60 b60 "java/lang/String" "value" "[B" .null := D60 (Or.inr (w16 hw)) (ty := (.array .byte)) (by decide)
        have Fb60_coder : Fld Z h60 b60 "java/lang/String" "coder" "B" (.int 0) := D60 (Or.inr (w17 hw)) (ty := .byte) (by decide)
        refine o_dup W60 (pc' := 427) (hb hy at_426) rfl rfl ?_
        refine o_aload W60 (pc' := 429) (hb hy at_427) rfl rfl rfl ?_
        have c61 := ((((((((((V10.ext E11).other R12 (own_ne V10.lt ge11)).other R13 (own_ne V10.lt ge11)).other R14 (own_ne V10.lt ge11)).other R15 (own_ne V10.lt ge11)).other R16 (own_ne V10.lt ge11)).other R17 (own_ne V10.lt ge11)).other R18 (own_ne V10.lt ge11)).other R19 (own_ne V10.lt ge11)).other R20 (own_ne V10.lt ge11))
        have c62 := (((((((((((c61.ext E21).other R22 (own_ne c61.lt ge21)).other R23 (own_ne c61.lt ge21)).other R24 (own_ne c61.lt ge21)).other R25 (own_ne c61.lt ge21)).other R26 (own_ne c61.lt ge21)).other R27 (own_ne c61.lt ge21)).other R28 (own_ne c61.lt ge21)).other R29 (own_ne c61.lt ge21)).other R30 (own_ne c61.lt ge21)).other R31 (own_ne c61.lt ge21))
        have c63 := ((((((((((((c62.ext E32).other R33 (own_ne c62.lt ge32)).other R34 (own_ne c62.lt ge32)).other R35 (own_ne c62.lt ge32)).other R36 (own_ne c62.lt ge32)).other R37 (own_ne c62.lt ge32)).other R38 (own_ne c62.lt ge32)).other R39 (own_ne c62.lt ge32)).other R40 (own_ne c62.lt ge32)).other R41 (own_ne c62.lt ge32)).other R42 (own_ne c62.lt ge32)).other R43 (own_ne c62.lt ge32))
        have c64 := (((((((((((((((((((((((((((((((((((((((((((((((V10.ext E11).other R12 (own_ne V10.lt ge11)).other R13 (own_ne V10.lt ge11)).other R14 (own_ne V10.lt ge11)).other R15 (own_ne V10.lt ge11)).other R16 (own_ne V10.lt ge11)).other R17 (own_ne V10.lt ge11)).other R18 (own_ne V10.lt ge11)).other R19 (own_ne V10.lt ge11)).other R20 (own_ne V10.lt ge11)).ext E21).other R22 (own_ne c61.lt ge21)).other R23 (own_ne c61.lt ge21)).other R24 (own_ne c61.lt ge21)).other R25 (own_ne c61.lt ge21)).other R26 (own_ne c61.lt ge21)).other R27 (own_ne c61.lt ge21)).other R28 (own_ne c61.lt ge21)).other R29 (own_ne c61.lt ge21)).other R30 (own_ne c61.lt ge21)).other R31 (own_ne c61.lt ge21)).ext E32).other R33 (own_ne c62.lt ge32)).other R34 (own_ne c62.lt ge32)).other R35 (own_ne c62.lt ge32)).other R36 (own_ne c62.lt ge32)).other R37 (own_ne c62.lt ge32)).other R38 (own_ne c62.lt ge32)).other R39 (own_ne c62.lt ge32)).other R40 (own_ne c62.lt ge32)).other R41 (own_ne c62.lt ge32)).other R42 (own_ne c62.lt ge32)).other R43 (own_ne c62.lt ge32)).ext E44).other R45 (own_ne c63.lt ge44)).other R46 (own_ne c63.lt ge44)).other R47 (own_ne c63.lt ge44)).other R48 (own_ne c63.lt ge44)).other R49 (own_ne c63.lt ge44)).other R50 (own_ne c63.lt ge44)).other R51 (own_ne c63.lt ge44)).other R52 (own_ne c63.lt ge44)).other R53 (own_ne c63.lt ge44)).other R54 (own_ne c63.lt ge44)).other R55 (own_ne c63.lt ge44)).other R56 (own_ne c63.lt ge44)).ext E60)
        have ok65 : own_ok [(p1 &&& (255 : Int32)), (p2 &&& (255 : Int32)), (p3 &&& (255 : Int32))] := ⟨by simp only [List.mem_cons, List.not_mem_nil, or_false, forall_eq_or_imp, forall_eq, false_imp_iff, implies_true]; exact ⟨(own_b255 _), (own_b255 _), (own_b255 _)⟩, Nat.le_of_ble_eq_true rfl⟩
        have sf66 := own_safeS (EL := consts_1) W60.al A60 Fb60_value
        refine o_special W60 (y := (⟨"java/lang/String", "<init>", "([C)V"⟩ : MethodName)) rfl (w4 hw) (w5 hw) (w6 hw) (by decide) (a := b60) (argsL := [(.ref b7)]) (StrChars.Road.backV (W := 1) W60.2.2.2.1 (own_hV hw) (kI := 4) (w2 hw) (cs := [(p1 &&& (255 : Int32)), (p2 &&& (255 : Int32)), (p3 &&& (255 : Int32))]) (bs := [((p1 &&& (255 : Int32))).toInt8.toInt32, ((p2 &&& (255 : Int32))).toInt8.toInt32, ((p3 &&& (255 : Int32))).toInt8.toInt32]) (n := 3) (n0 := Z.heap.size) gz60 W60.zs A60 Fb60_value Fb60_coder c64 (SgCS.ext W60.ox) NgCS rfl rfl (by decide) (by decide) ok65.1 rfl (by decide) (by decide)) (by rw [hml]; rfl) (lenOf pd0 rfl) (S := [(.ref b60)]) rfl (by exact Nat.le_of_eq rfl) (pc' := 432) (hb hy at_429) rfl (cells' := 10) (slots' := 55) rfl rfl (by decide) (by decide) (wy := [b60]) (fun _ _ _ q => ⟨q.2.1, q.2.2.1⟩) (allS ⟨gz60, (Or.inr gb60)⟩ all0) (fun _ K => IW.keep K (sfS sf66 sf0) W60.inv) ?_
        intro v67 T67 h67 lo67 W67 K67 q67
        obtain ⟨rfl, -, -, X67, Fc67, t67, kb67, gz67, ge67, -, Fv67, A67⟩ := q67
        have B67 : Arv Z h67 t67 kb67 .byte (3 : Int32) [(.int (StrChars.lo8 (p1 &&& (255 : Int32)))), (.int (StrChars.lo8 (p2 &&& (255 : Int32)))), (.int (StrChars.lo8 (p3 &&& (255 : Int32))))] (.int 0) := A67
        show Gl _ _ _ _ _ _ _ _ [(.ref b60)]
        refine o_astore W67 (L' := #[.val (.int p0), .val (.int p1), .val (.int p2), .val (.int p3), .val (.int (p1 &&& (255 : Int32))), .val (.int (p2 &&& (255 : Int32))), .val (.int (p3 &&& (255 : Int32))), .val (.int (p0 &&& (3 : Int32))), .val (.ref b1), .val (.ref b2), .val (.ref b4), .val (.ref b7), .val (.ref b11), .val (.ref b21), .val (.ref b32), .val (.ref b44), .val (.ref b60), .unset, .unset, .unset]) (pc' := 434) (hb hy at_432) rfl rfl rfl ?_
        refine o_new W67 (w1 hw) (w2 hw) (w3 hw) (fun _ E => IW.ext E W67.inv) (pc' := 437) (hb hy at_434) rfl (cells' := 11) (slots' := 59) rfl rfl (by decide) (by decide) ?_
        intro b68 T68 h68 W68 E68 ge68 gz68 gb68 A68 D68
        have Fb68_value : Fld Z h68 b68 "java/lang/String" "value" "[B" .null := D68 (Or.inr (w16 hw)) (ty := (.array .byte)) (by decide)
        have Fb68_coder : Fld Z h68 b68 "java/lang/String" "coder" "B" (.int 0) := D68 (Or.inr (w17 hw)) (ty := .byte) (by decide)
        refine o_dup W68 (pc' := 438) (hb hy at_437) rfl rfl ?_
        refine o_aload W68 (pc' := 440) (hb hy at_438) rfl rfl rfl ?_
        have c69 := (((V56.ext E60).keep K67 (ninS (own_ne V56.lt ge60) nin0)).ext E68)
        have ok70 : own_ok [(105 : Int32), (110 : Int32), (118 : Int32), (97 : Int32), (108 : Int32), (105 : Int32), (100 : Int32), (58 : Int32), (32 : Int32), (p1 &&& (255 : Int32)), (p2 &&& (255 : Int32)), (p3 &&& (255 : Int32))] := ⟨by simp only [List.mem_cons, List.not_mem_nil, or_false, forall_eq_or_imp, forall_eq, false_imp_iff, implies_true]; exact ⟨(by unfold own_b; decide), (by unfold own_b; decide), (by unfold own_b; decide), (by unfold own_b; decide), (by unfold own_b; decide), (by unfold own_b; decide), (by unfold own_b; decide), (by unfold own_b; decide), (by unfold own_b; decide), (own_b255 _), (own_b255 _), (own_b255 _)⟩, Nat.le_of_ble_eq_true rfl⟩
        have sf71 := own_safeS (EL := consts_1) W68.al A68 Fb68_value
        refine o_special W68 (y := (⟨"java/lang/String", "<init>", "([C)V"⟩ : MethodName)) rfl (w4 hw) (w5 hw) (w6 hw) (by decide) (a := b68) (argsL := [(.ref b44)]) (StrChars.Road.backV (W := 1) W68.2.2.2.1 (own_hV hw) (kI := 4) (w2 hw) (cs := [(105 : Int32), (110 : Int32), (118 : Int32), (97 : Int32), (108 : Int32), (105 : Int32), (100 : Int32), (58 : Int32), (32 : Int32), (p1 &&& (255 : Int32)), (p2 &&& (255 : Int32)), (p3 &&& (255 : Int32))]) (bs := [((105 : Int32)).toInt8.toInt32, ((110 : Int32)).toInt8.toInt32, ((118 : Int32)).toInt8.toInt32, ((97 : Int32)).toInt8.toInt32, ((108 : Int32)).toInt8.toInt32, ((105 : Int32)).toInt8.toInt32, ((100 : Int32)).toInt8.toInt32, ((58 : Int32)).toInt8.toInt32, ((32 : Int32)).toInt8.toInt32, ((p1 &&& (255 : Int32))).toInt8.toInt32, ((p2 &&& (255 : Int32))).toInt8.toInt32, ((p3 &&& (255 : Int32))).toInt8.toInt32]) (n := 12) (n0 := Z.heap.size) gz68 W68.zs A68 Fb68_value Fb68_coder c69 (SgCS.ext W68.ox) NgCS rfl rfl (by decide) (by decide) ok70.1 rfl (by decide) (by decide)) (by rw [hml]; rfl) (lenOf pd0 rfl) (S := [(.ref b68)]) rfl (by exact Nat.le_of_eq rfl) (pc' := 443) (hb hy at_440) rfl (cells' := 12) (slots' := 71) rfl rfl (by decide) (by decide) (wy := [b68]) (fun _ _ _ q => ⟨q.2.1, q.2.2.1⟩) (allS ⟨gz68, (Or.inr gb68)⟩ all0) (fun _ K => IW.keep K (sfS sf71 sf0) W68.inv) ?_
        intro v72 T72 h72 lo72 W72 K72 q72
        obtain ⟨rfl, -, -, X72, Fc72, t72, kb72, gz72, ge72, -, Fv72, A72⟩ := q72
        have B72 : Arv Z h72 t72 kb72 .byte (12 : Int32) [(.int (StrChars.lo8 (105 : Int32))), (.int (StrChars.lo8 (110 : Int32))), (.int (StrChars.lo8 (118 : Int32))), (.int (StrChars.lo8 (97 : Int32))), (.int (StrChars.lo8 (108 : Int32))), (.int (StrChars.lo8 (105 : Int32))), (.int (StrChars.lo8 (100 : Int32))), (.int (StrChars.lo8 (58 : Int32))), (.int (StrChars.lo8 (32 : Int32))), (.int (StrChars.lo8 (p1 &&& (255 : Int32)))), (.int (StrChars.lo8 (p2 &&& (255 : Int32)))), (.int (StrChars.lo8 (p3 &&& (255 : Int32))))] (.int 0) := A72
        show Gl _ _ _ _ _ _ _ _ [(.ref b68)]
        refine o_astore W72 (L' := #[.val (.int p0), .val (.int p1), .val (.int p2), .val (.int p3), .val (.int (p1 &&& (255 : Int32))), .val (.int (p2 &&& (255 : Int32))), .val (.int (p3 &&& (255 : Int32))), .val (.int (p0 &&& (3 : Int32))), .val (.ref b1), .val (.ref b2), .val (.ref b4), .val (.ref b7), .val (.ref b11), .val (.ref b21), .val (.ref b32), .val (.ref b44), .val (.ref b60), .val (.ref b68), .unset, .unset]) (pc' := 445) (hb hy at_443) rfl rfl rfl ?_
        refine o_aload W72 (pc' := 447) (hb hy at_445) rfl rfl rfl ?_
        have c73 := ((X67.ext E68).keep K72)
        refine o_staticW W72 (y := (⟨"com/example/countersign/countersign/Verdict", "invalid", "(Ljava/lang/String;)Lcom/example/countersign/countersign/Verdict;"⟩ : MethodName)) (w33 hw) (w34 hw) (w35 hw) (w36 hw) (by decide) (argsL := [(.ref b60)]) (CtrW.back (Wd := 0) W72 (rm3 l Z a0 hw b60 h72 W72.old c73) (w36 hw) (w35 hw) (by decide) (by decide) (own_EL hw)) (by rw [hml]; rfl) (lenOf pd3 rfl) (S := []) rfl (by exact Nat.le_of_eq rfl) (pc' := 450) (hb hy at_447) rfl (cells' := 15) (slots' := 100) rfl rfl (by decide) (by decide) (wy := []) (fun _ _ _ q => ⟨q.1, q.2.1⟩) all0  ?_
        intro v74 T74 h74 V74 lo74 W74 K74 C74 q74
        obtain ⟨r1_74, P74_0, P74_1, P74_2, rfl⟩ := q74.2.2
        show Gl _ _ _ _ _ _ _ _ [(.ref r1_74)]
        refine o_astore W74 (L' := #[.val (.int p0), .val (.int p1), .val (.int p2), .val (.int p3), .val (.int (p1 &&& (255 : Int32))), .val (.int (p2 &&& (255 : Int32))), .val (.int (p3 &&& (255 : Int32))), .val (.int (p0 &&& (3 : Int32))), .val (.ref b1), .val (.ref b2), .val (.ref b4), .val (.ref b7), .val (.ref b11), .val (.ref b21), .val (.ref b32), .val (.ref b44), .val (.ref b60), .val (.ref b68), .val (.ref r1_74), .unset]) (pc' := 452) (hb hy at_450) rfl rfl rfl ?_
        refine o_aload W74 (pc' := 454) (hb hy at_452) rfl rfl rfl ?_
        refine o_virtual W74 (y := (⟨"com/example/countersign/countersign/Verdict", "isValid", "()Z"⟩ : MethodName)) (z := (⟨"com/example/countersign/countersign/Verdict", "isValid", "()Z"⟩ : MethodName)) (w51 hw) (w52 hw) (o_nf W74 rfl (w54 hw)) (w54 hw) (w53 hw) (by decide) P74_1 (argsL := []) (CtrN.back (Wd := 0) W74 (rm4 l Z a0 hw r1_74 b60 h74 W74.old P74_2) (w55 hw) (w35 hw) (by decide) (by decide)) (by rw [hml]; rfl) (lenOf pd4 rfl) (S := []) rfl (by exact Nat.le_of_eq rfl) (pc' := 457) (hb hy at_454) rfl (cells' := 15) (slots' := 100) rfl rfl (by decide) (by decide) (wy := []) (fun _ _ _ q => ⟨q.1, q.2.1⟩) all0 (fun _ K => IW.keep K sf0 W74.inv) ?_
        intro v75 T75 h75 lo75 W75 K75 q75
        obtain rfl := q75.2.2
        show Gl _ _ _ _ _ _ _ _ [(.int 0)]
        refine o_ifY W75 (pc' := 462) (hb hy at_457) (XT.i0_eq_t (by decide)) (by decide) rfl ?_
        refine o_aload W75 (pc' := 464) (hb hy at_462) rfl rfl rfl ?_
        have c76 := (P74_2.keep K75 nin0)
        have c77 := ((((Fv67.ext E68).keep K72 (ninS (own_ne X67.lt ge68) nin0)).keep K74 nin0).keep K75 nin0)
        have c78 := ((((B67.ext E68).keep K72 (ninS (own_ne B67.lt ge68) nin0)).keep K74 nin0).keep K75 nin0)
        have c79 := ((((Fc67.ext E68).keep K72 (ninS (own_ne X67.lt ge68) nin0)).keep K74 nin0).keep K75 nin0)
        have c80 := ((c73.keep K74).keep K75)
        have c81 := (P74_1.keep K75)
        refine o_virtualW W75 (y := (⟨"com/example/countersign/countersign/Verdict", "toString", "()Ljava/lang/String;"⟩ : MethodName)) (z := (⟨"com/example/countersign/countersign/Verdict", "toString", "()Ljava/lang/String;"⟩ : MethodName)) (w56 hw) (w57 hw) (o_nf W75 rfl (w59 hw)) (w59 hw) (w58 hw) (by decide) c81 (argsL := []) (CtrW.back (Wd := 0) W75 (rm32 l Z a0 hw gCS r1_74 b60 t67 kb67 (p1 &&& (255 : Int32)) (p2 &&& (255 : Int32)) (p3 &&& (255 : Int32)) h75 W75.old c76 SgCS NgCS c80 c77 c78 c79) (w60 hw) (w35 hw) (by decide) (by decide) (own_EL hw)) (by rw [hml]; rfl) (lenOf pd19 rfl) (S := []) rfl (by exact Nat.le_of_eq rfl) (pc' := 467) (hb hy at_464) rfl (cells' := 21) (slots' := 176) rfl rfl (by decide) (by decide) (wy := []) (fun _ _ _ q => ⟨q.1, q.2.1⟩) all0  ?_
        intro v82 T82 h82 V82 lo82 W82 K82 C82 q82
        obtain ⟨r1_82, r2_82, r3_82, P82_0, P82_1, P82_2, P82_3, P82_4, P82_5, rfl⟩ := q82.2.2
        show Gl _ _ _ _ _ _ _ _ [(.ref r1_82)]
        refine o_astore W82 (L' := #[.val (.int p0), .val (.int p1), .val (.int p2), .val (.int p3), .val (.int (p1 &&& (255 : Int32))), .val (.int (p2 &&& (255 : Int32))), .val (.int (p3 &&& (255 : Int32))), .val (.int (p0 &&& (3 : Int32))), .val (.ref b1), .val (.ref b2), .val (.ref b4), .val (.ref b7), .val (.ref b11), .val (.ref b21), .val (.ref b32), .val (.ref b44), .val (.ref b60), .val (.ref b68), .val (.ref r1_74), .val (.ref r1_82)]) (pc' := 469) (hb hy at_467) rfl rfl rfl ?_
        refine o_aload W82 (pc' := 471) (hb hy at_469) rfl rfl rfl ?_
        refine o_aload W82 (pc' := 473) (hb hy at_471) rfl rfl rfl ?_
        have c83 := (((Fc72.keep K74 nin0).keep K75 nin0).keep K82 nin0)
        have c84 := (((Fv72.keep K74 nin0).keep K75 nin0).keep K82 nin0)
        have c85 := (((B72.keep K74 nin0).keep K75 nin0).keep K82 nin0)
        have c86 := (((X72.keep K74).keep K75).keep K82)
        have c87 := ((X72.keep K74).keep K75)
        refine o_virtual W82 (y := (⟨"java/lang/String", "equals", "(Ljava/lang/Object;)Z"⟩ : MethodName)) (z := (⟨"java/lang/String", "equals", "(Ljava/lang/Object;)Z"⟩ : MethodName)) (w172 hw) (w173 hw) (o_nf W82 rfl (w175 hw)) (w175 hw) (w174 hw) (by decide) P82_2 (argsL := [(.ref b68)]) (CtrN.back (Wd := 0) W82 (rm34 l Z a0 hw gCS r1_82 b68 r2_82 t72 r3_82 (StrChars.lo8 (105 : Int32)) (StrChars.lo8 (110 : Int32)) (StrChars.lo8 (118 : Int32)) (StrChars.lo8 (97 : Int32)) (StrChars.lo8 (108 : Int32)) (StrChars.lo8 (100 : Int32)) (StrChars.lo8 (58 : Int32)) (StrChars.lo8 (32 : Int32)) (StrChars.lo8 (p1 &&& (255 : Int32))) (StrChars.lo8 (p2 &&& (255 : Int32))) (StrChars.lo8 (p3 &&& (255 : Int32))) kb72 (p1 &&& (255 : Int32)) (p2 &&& (255 : Int32)) (p3 &&& (255 : Int32)) h82 W82.old P82_2 c86 (own_ne' c87.lt P82_0) SgCS NgCS P82_4 c83 P82_3 c84 P82_5 c85 rfl rfl rfl rfl rfl rfl rfl rfl rfl rfl rfl) (w176 hw) (w3 hw) (by decide) (by decide)) (by rw [hml]; rfl) (lenOf pd21 rfl) (S := []) rfl (by exact Nat.le_of_eq rfl) (pc' := 476) (hb hy at_473) rfl (cells' := 21) (slots' := 176) rfl rfl (by decide) (by decide) (wy := []) (fun _ _ _ q => ⟨q.1, q.2.1⟩) all0 (fun _ K => IW.keep K sf0 W82.inv) ?_
        intro v88 T88 h88 lo88 W88 K88 q88
        obtain rfl := q88.2.2
        show Gl _ _ _ _ _ _ _ _ [(.int 1)]
        exact o_retNW W88 (own_EL hw) hlk (t := .boolean) hret (by simp) (z' := (1 : Int32)) (by decide) (hb hy at_476) (by decide) (by decide) rfl
      · refine o_icmpN W56 (pc' := 398) (hb hy at_395) (XT.ii_ne_f hq59) rfl ?_
        refine o_new W56 (w1 hw) (w2 hw) (w3 hw) (fun _ E => IW.ext E W56.inv) (pc' := 401) (hb hy at_398) rfl (cells' := 9) (slots' := 52) rfl rfl (by decide) (by decide) ?_
        intro b89 T89 h89 W89 E89 ge89 gz89 gb89 A89 D89
        have Fb89_value : Fld Z h89 b89 "java/lang/String" "value" "[B" .null := D89 (Or.inr (w16 hw)) (ty := (.array .byte)) (by decide)
        have Fb89_coder : Fld Z h89 b89 "java/lang/String" "coder" "B" (.int 0) := D89 (Or.inr (w17 hw)) (ty := .byte) (by decide)
        refine o_dup W89 (pc' := 402) (hb hy at_401) rfl rfl ?_
        refine o_aload W89 (pc' := 404) (hb hy at_402) rfl rfl rfl ?_
        have c90 := ((((V6.ext E7).other R8 (own_ne V6.lt ge7)).other R9 (own_ne V6.lt ge7)).other R10 (own_ne V6.lt ge7))
        have c91 := ((((((((((c90.ext E11).other R12 (own_ne c90.lt ge11)).other R13 (own_ne c90.lt ge11)).other R14 (own_ne c90.lt ge11)).other R15 (own_ne c90.lt ge11)).other R16 (own_ne c90.lt ge11)).other R17 (own_ne c90.lt ge11)).other R18 (own_ne c90.lt ge11)).other R19 (own_ne c90.lt ge11)).other R20 (own_ne c90.lt ge11))
        have c92 := (((((((((((c91.ext E21).other R22 (own_ne c91.lt ge21)).other R23 (own_ne c91.lt ge21)).other R24 (own_ne c91.lt ge21)).other R25 (own_ne c91.lt ge21)).other R26 (own_ne c91.lt ge21)).other R27 (own_ne c91.lt ge21)).other R28 (own_ne c91.lt ge21)).other R29 (own_ne c91.lt ge21)).other R30 (own_ne c91.lt ge21)).other R31 (own_ne c91.lt ge21))
        have c93 := ((((((((((((c92.ext E32).other R33 (own_ne c92.lt ge32)).other R34 (own_ne c92.lt ge32)).other R35 (own_ne c92.lt ge32)).other R36 (own_ne c92.lt ge32)).other R37 (own_ne c92.lt ge32)).other R38 (own_ne c92.lt ge32)).other R39 (own_ne c92.lt ge32)).other R40 (own_ne c92.lt ge32)).other R41 (own_ne c92.lt ge32)).other R42 (own_ne c92.lt ge32)).other R43 (own_ne c92.lt ge32))
        have c94 := (((((((((((((((((((((((((((((((((((((((((((((((((((V6.ext E7).other R8 (own_ne V6.lt ge7)).other R9 (own_ne V6.lt ge7)).other R10 (own_ne V6.lt ge7)).ext E11).other R12 (own_ne c90.lt ge11)).other R13 (own_ne c90.lt ge11)).other R14 (own_ne c90.lt ge11)).other R15 (own_ne c90.lt ge11)).other R16 (own_ne c90.lt ge11)).other R17 (own_ne c90.lt ge11)).other R18 (own_ne c90.lt ge11)).other R19 (own_ne c90.lt ge11)).other R20 (own_ne c90.lt ge11)).ext E21).other R22 (own_ne c91.lt ge21)).other R23 (own_ne c91.lt ge21)).other R24 (own_ne c91.lt ge21)).other R25 (own_ne c91.lt ge21)).other R26 (own_ne c91.lt ge21)).other R27 (own_ne c91.lt ge21)).other R28 (own_ne c91.lt ge21)).other R29 (own_ne c91.lt ge21)).other R30 (own_ne c91.lt ge21)).other R31 (own_ne c91.lt ge21)).ext E32).other R33 (own_ne c92.lt ge32)).other R34 (own_ne c92.lt ge32)).other R35 (own_ne c92.lt ge32)).other R36 (own_ne c92.lt ge32)).other R37 (own_ne c92.lt ge32)).other R38 (own_ne c92.lt ge32)).other R39 (own_ne c92.lt ge32)).other R40 (own_ne c92.lt ge32)).other R41 (own_ne c92.lt ge32)).other R42 (own_ne c92.lt ge32)).other R43 (own_ne c92.lt ge32)).ext E44).other R45 (own_ne c93.lt ge44)).other R46 (own_ne c93.lt ge44)).other R47 (own_ne c93.lt ge44)).other R48 (own_ne c93.lt ge44)).other R49 (own_ne c93.lt ge44)).other R50 (own_ne c93.lt ge44)).other R51 (own_ne c93.lt ge44)).other R52 (own_ne c93.lt ge44)).other R53 (own_ne c93.lt ge44)).other R54 (own_ne c93.lt ge44)).other R55 (own_ne c93.lt ge44)).other R56 (own_ne c93.lt ge44)).ext E89)
        have ok95 : own_ok [(p1 &&& (255 : Int32)), (p2 &&& (255 : Int32))] := ⟨by simp only [List.mem_cons, List.not_mem_nil, or_false, forall_eq_or_imp, forall_eq, false_imp_iff, implies_true]; exact ⟨(own_b255 _), (own_b255 _)⟩, Nat.le_of_ble_eq_true rfl⟩
        have sf96 := own_safeS (EL := consts_1) W89.al A89 Fb89_value
        refine o_special W89 (y := (⟨"java/lang/String", "<init>", "([C)V"⟩ : MethodName)) rfl (w4 hw) (w5 hw) (w6 hw) (by decide) (a := b89) (argsL := [(.ref b4)]) (StrChars.Road.backV (W := 1) W89.2.2.2.1 (own_hV hw) (kI := 4) (w2 hw) (cs := [(p1 &&& (255 : Int32)), (p2 &&& (255 : Int32))]) (bs := [((p1 &&& (255 : Int32))).toInt8.toInt32, ((p2 &&& (255 : Int32))).toInt8.toInt32]) (n := 2) (n0 := Z.heap.size) gz89 W89.zs A89 Fb89_value Fb89_coder c94 (SgCS.ext W89.ox) NgCS rfl rfl (by decide) (by decide) ok95.1 rfl (by decide) (by decide)) (by rw [hml]; rfl) (lenOf pd0 rfl) (S := [(.ref b89)]) rfl (by exact Nat.le_of_eq rfl) (pc' := 407) (hb hy at_404) rfl (cells' := 10) (slots' := 54) rfl rfl (by decide) (by decide) (wy := [b89]) (fun _ _ _ q => ⟨q.2.1, q.2.2.1⟩) (allS ⟨gz89, (Or.inr gb89)⟩ all0) (fun _ K => IW.keep K (sfS sf96 sf0) W89.inv) ?_
        intro v97 T97 h97 lo97 W97 K97 q97
        obtain ⟨rfl, -, -, X97, Fc97, t97, kb97, gz97, ge97, -, Fv97, A97⟩ := q97
        have B97 : Arv Z h97 t97 kb97 .byte (2 : Int32) [(.int (StrChars.lo8 (p1 &&& (255 : Int32)))), (.int (StrChars.lo8 (p2 &&& (255 : Int32))))] (.int 0) := A97
        show Gl _ _ _ _ _ _ _ _ [(.ref b89)]
        refine o_astore W97 (L' := #[.val (.int p0), .val (.int p1), .val (.int p2), .val (.int p3), .val (.int (p1 &&& (255 : Int32))), .val (.int (p2 &&& (255 : Int32))), .val (.int (p3 &&& (255 : Int32))), .val (.int (p0 &&& (3 : Int32))), .val (.ref b1), .val (.ref b2), .val (.ref b4), .val (.ref b7), .val (.ref b11), .val (.ref b21), .val (.ref b32), .val (.ref b44), .val (.ref b89), .unset, .unset, .unset]) (pc' := 409) (hb hy at_407) rfl rfl rfl ?_
        refine o_new W97 (w1 hw) (w2 hw) (w3 hw) (fun _ E => IW.ext E W97.inv) (pc' := 412) (hb hy at_409) rfl (cells' := 11) (slots' := 58) rfl rfl (by decide) (by decide) ?_
        intro b98 T98 h98 W98 E98 ge98 gz98 gb98 A98 D98
        have Fb98_value : Fld Z h98 b98 "java/lang/String" "value" "[B" .null := D98 (Or.inr (w16 hw)) (ty := (.array .byte)) (by decide)
        have Fb98_coder : Fld Z h98 b98 "java/lang/String" "coder" "B" (.int 0) := D98 (Or.inr (w17 hw)) (ty := .byte) (by decide)
        refine o_dup W98 (pc' := 413) (hb hy at_412) rfl rfl ?_
        refine o_aload W98 (pc' := 415) (hb hy at_413) rfl rfl rfl ?_
        have c99 := (((((((((((((V43.ext E44).other R45 (own_ne V43.lt ge44)).other R46 (own_ne V43.lt ge44)).other R47 (own_ne V43.lt ge44)).other R48 (own_ne V43.lt ge44)).other R49 (own_ne V43.lt ge44)).other R50 (own_ne V43.lt ge44)).other R51 (own_ne V43.lt ge44)).other R52 (own_ne V43.lt ge44)).other R53 (own_ne V43.lt ge44)).other R54 (own_ne V43.lt ge44)).other R55 (own_ne V43.lt ge44)).other R56 (own_ne V43.lt ge44))
        have c100 := ((((((((((((((((V43.ext E44).other R45 (own_ne V43.lt ge44)).other R46 (own_ne V43.lt ge44)).other R47 (own_ne V43.lt ge44)).other R48 (own_ne V43.lt ge44)).other R49 (own_ne V43.lt ge44)).other R50 (own_ne V43.lt ge44)).other R51 (own_ne V43.lt ge44)).other R52 (own_ne V43.lt ge44)).other R53 (own_ne V43.lt ge44)).other R54 (own_ne V43.lt ge44)).other R55 (own_ne V43.lt ge44)).other R56 (own_ne V43.lt ge44)).ext E89).keep K97 (ninS (own_ne c99.lt ge89) nin0)).ext E98)
        have ok101 : own_ok [(105 : Int32), (110 : Int32), (118 : Int32), (97 : Int32), (108 : Int32), (105 : Int32), (100 : Int32), (58 : Int32), (32 : Int32), (p1 &&& (255 : Int32)), (p2 &&& (255 : Int32))] := ⟨by simp only [List.mem_cons, List.not_mem_nil, or_false, forall_eq_or_imp, forall_eq, false_imp_iff, implies_true]; exact ⟨(by unfold own_b; decide), (by unfold own_b; decide), (by unfold own_b; decide), (by unfold own_b; decide), (by unfold own_b; decide), (by unfold own_b; decide), (by unfold own_b; decide), (by unfold own_b; decide), (by unfold own_b; decide), (own_b255 _), (own_b255 _)⟩, Nat.le_of_ble_eq_true rfl⟩
        have sf102 := own_safeS (EL := consts_1) W98.al A98 Fb98_value
        refine o_special W98 (y := (⟨"java/lang/String", "<init>", "([C)V"⟩ : MethodName)) rfl (w4 hw) (w5 hw) (w6 hw) (by decide) (a := b98) (argsL := [(.ref b32)]) (StrChars.Road.backV (W := 1) W98.2.2.2.1 (own_hV hw) (kI := 4) (w2 hw) (cs := [(105 : Int32), (110 : Int32), (118 : Int32), (97 : Int32), (108 : Int32), (105 : Int32), (100 : Int32), (58 : Int32), (32 : Int32), (p1 &&& (255 : Int32)), (p2 &&& (255 : Int32))]) (bs := [((105 : Int32)).toInt8.toInt32, ((110 : Int32)).toInt8.toInt32, ((118 : Int32)).toInt8.toInt32, ((97 : Int32)).toInt8.toInt32, ((108 : Int32)).toInt8.toInt32, ((105 : Int32)).toInt8.toInt32, ((100 : Int32)).toInt8.toInt32, ((58 : Int32)).toInt8.toInt32, ((32 : Int32)).toInt8.toInt32, ((p1 &&& (255 : Int32))).toInt8.toInt32, ((p2 &&& (255 : Int32))).toInt8.toInt32]) (n := 11) (n0 := Z.heap.size) gz98 W98.zs A98 Fb98_value Fb98_coder c100 (SgCS.ext W98.ox) NgCS rfl rfl (by decide) (by decide) ok101.1 rfl (by decide) (by decide)) (by rw [hml]; rfl) (lenOf pd0 rfl) (S := [(.ref b98)]) rfl (by exact Nat.le_of_eq rfl) (pc' := 418) (hb hy at_415) rfl (cells' := 12) (slots' := 69) rfl rfl (by decide) (by decide) (wy := [b98]) (fun _ _ _ q => ⟨q.2.1, q.2.2.1⟩) (allS ⟨gz98, (Or.inr gb98)⟩ all0) (fun _ K => IW.keep K (sfS sf102 sf0) W98.inv) ?_
        intro v103 T103 h103 lo103 W103 K103 q103
        obtain ⟨rfl, -, -, X103, Fc103, t103, kb103, gz103, ge103, -, Fv103, A103⟩ := q103
        have B103 : Arv Z h103 t103 kb103 .byte (11 : Int32) [(.int (StrChars.lo8 (105 : Int32))), (.int (StrChars.lo8 (110 : Int32))), (.int (StrChars.lo8 (118 : Int32))), (.int (StrChars.lo8 (97 : Int32))), (.int (StrChars.lo8 (108 : Int32))), (.int (StrChars.lo8 (105 : Int32))), (.int (StrChars.lo8 (100 : Int32))), (.int (StrChars.lo8 (58 : Int32))), (.int (StrChars.lo8 (32 : Int32))), (.int (StrChars.lo8 (p1 &&& (255 : Int32)))), (.int (StrChars.lo8 (p2 &&& (255 : Int32))))] (.int 0) := A103
        show Gl _ _ _ _ _ _ _ _ [(.ref b98)]
        refine o_astore W103 (L' := #[.val (.int p0), .val (.int p1), .val (.int p2), .val (.int p3), .val (.int (p1 &&& (255 : Int32))), .val (.int (p2 &&& (255 : Int32))), .val (.int (p3 &&& (255 : Int32))), .val (.int (p0 &&& (3 : Int32))), .val (.ref b1), .val (.ref b2), .val (.ref b4), .val (.ref b7), .val (.ref b11), .val (.ref b21), .val (.ref b32), .val (.ref b44), .val (.ref b89), .val (.ref b98), .unset, .unset]) (pc' := 420) (hb hy at_418) rfl rfl rfl ?_
        refine o_goto W103 (pc' := 445) (hb hy at_420) (by decide) rfl ?_
        refine o_aload W103 (pc' := 447) (hb hy at_445) rfl rfl rfl ?_
        have c104 := ((X97.ext E98).keep K103)
        refine o_staticW W103 (y := (⟨"com/example/countersign/countersign/Verdict", "invalid", "(Ljava/lang/String;)Lcom/example/countersign/countersign/Verdict;"⟩ : MethodName)) (w33 hw) (w34 hw) (w35 hw) (w36 hw) (by decide) (argsL := [(.ref b89)]) (CtrW.back (Wd := 0) W103 (rm3 l Z a0 hw b89 h103 W103.old c104) (w36 hw) (w35 hw) (by decide) (by decide) (own_EL hw)) (by rw [hml]; rfl) (lenOf pd3 rfl) (S := []) rfl (by exact Nat.le_of_eq rfl) (pc' := 450) (hb hy at_447) rfl (cells' := 15) (slots' := 98) rfl rfl (by decide) (by decide) (wy := []) (fun _ _ _ q => ⟨q.1, q.2.1⟩) all0  ?_
        intro v105 T105 h105 V105 lo105 W105 K105 C105 q105
        obtain ⟨r1_105, P105_0, P105_1, P105_2, rfl⟩ := q105.2.2
        show Gl _ _ _ _ _ _ _ _ [(.ref r1_105)]
        refine o_astore W105 (L' := #[.val (.int p0), .val (.int p1), .val (.int p2), .val (.int p3), .val (.int (p1 &&& (255 : Int32))), .val (.int (p2 &&& (255 : Int32))), .val (.int (p3 &&& (255 : Int32))), .val (.int (p0 &&& (3 : Int32))), .val (.ref b1), .val (.ref b2), .val (.ref b4), .val (.ref b7), .val (.ref b11), .val (.ref b21), .val (.ref b32), .val (.ref b44), .val (.ref b89), .val (.ref b98), .val (.ref r1_105), .unset]) (pc' := 452) (hb hy at_450) rfl rfl rfl ?_
        refine o_aload W105 (pc' := 454) (hb hy at_452) rfl rfl rfl ?_
        refine o_virtual W105 (y := (⟨"com/example/countersign/countersign/Verdict", "isValid", "()Z"⟩ : MethodName)) (z := (⟨"com/example/countersign/countersign/Verdict", "isValid", "()Z"⟩ : MethodName)) (w51 hw) (w52 hw) (o_nf W105 rfl (w54 hw)) (w54 hw) (w53 hw) (by decide) P105_1 (argsL := []) (CtrN.back (Wd := 0) W105 (rm4 l Z a0 hw r1_105 b89 h105 W105.old P105_2) (w55 hw) (w35 hw) (by decide) (by decide)) (by rw [hml]; rfl) (lenOf pd4 rfl) (S := []) rfl (by exact Nat.le_of_eq rfl) (pc' := 457) (hb hy at_454) rfl (cells' := 15) (slots' := 98) rfl rfl (by decide) (by decide) (wy := []) (fun _ _ _ q => ⟨q.1, q.2.1⟩) all0 (fun _ K => IW.keep K sf0 W105.inv) ?_
        intro v106 T106 h106 lo106 W106 K106 q106
        obtain rfl := q106.2.2
        show Gl _ _ _ _ _ _ _ _ [(.int 0)]
        refine o_ifY W106 (pc' := 462) (hb hy at_457) (XT.i0_eq_t (by decide)) (by decide) rfl ?_
        refine o_aload W106 (pc' := 464) (hb hy at_462) rfl rfl rfl ?_
        have c107 := (P105_2.keep K106 nin0)
        have c108 := ((((Fv97.ext E98).keep K103 (ninS (own_ne X97.lt ge98) nin0)).keep K105 nin0).keep K106 nin0)
        have c109 := ((((B97.ext E98).keep K103 (ninS (own_ne B97.lt ge98) nin0)).keep K105 nin0).keep K106 nin0)
        have c110 := ((((Fc97.ext E98).keep K103 (ninS (own_ne X97.lt ge98) nin0)).keep K105 nin0).keep K106 nin0)
        have c111 := ((c104.keep K105).keep K106)
        have c112 := (P105_1.keep K106)
        refine o_virtualW W106 (y := (⟨"com/example/countersign/countersign/Verdict", "toString", "()Ljava/lang/String;"⟩ : MethodName)) (z := (⟨"com/example/countersign/countersign/Verdict", "toString", "()Ljava/lang/String;"⟩ : MethodName)) (w56 hw) (w57 hw) (o_nf W106 rfl (w59 hw)) (w59 hw) (w58 hw) (by decide) c112 (argsL := []) (CtrW.back (Wd := 0) W106 (rm50 l Z a0 hw gCS r1_105 b89 t97 kb97 (p1 &&& (255 : Int32)) (p2 &&& (255 : Int32)) h106 W106.old c107 SgCS NgCS c111 c108 c109 c110) (w60 hw) (w35 hw) (by decide) (by decide) (own_EL hw)) (by rw [hml]; rfl) (lenOf pd19 rfl) (S := []) rfl (by exact Nat.le_of_eq rfl) (pc' := 467) (hb hy at_464) rfl (cells' := 21) (slots' := 173) rfl rfl (by decide) (by decide) (wy := []) (fun _ _ _ q => ⟨q.1, q.2.1⟩) all0  ?_
        intro v113 T113 h113 V113 lo113 W113 K113 C113 q113
        obtain ⟨r1_113, r2_113, r3_113, P113_0, P113_1, P113_2, P113_3, P113_4, P113_5, rfl⟩ := q113.2.2
        show Gl _ _ _ _ _ _ _ _ [(.ref r1_113)]
        refine o_astore W113 (L' := #[.val (.int p0), .val (.int p1), .val (.int p2), .val (.int p3), .val (.int (p1 &&& (255 : Int32))), .val (.int (p2 &&& (255 : Int32))), .val (.int (p3 &&& (255 : Int32))), .val (.int (p0 &&& (3 : Int32))), .val (.ref b1), .val (.ref b2), .val (.ref b4), .val (.ref b7), .val (.ref b11), .val (.ref b21), .val (.ref b32), .val (.ref b44), .val (.ref b89), .val (.ref b98), .val (.ref r1_105), .val (.ref r1_113)]) (pc' := 469) (hb hy at_467) rfl rfl rfl ?_
        refine o_aload W113 (pc' := 471) (hb hy at_469) rfl rfl rfl ?_
        refine o_aload W113 (pc' := 473) (hb hy at_471) rfl rfl rfl ?_
        have c114 := (((Fc103.keep K105 nin0).keep K106 nin0).keep K113 nin0)
        have c115 := (((Fv103.keep K105 nin0).keep K106 nin0).keep K113 nin0)
        have c116 := (((B103.keep K105 nin0).keep K106 nin0).keep K113 nin0)
        have c117 := (((X103.keep K105).keep K106).keep K113)
        have c118 := ((X103.keep K105).keep K106)
        refine o_virtual W113 (y := (⟨"java/lang/String", "equals", "(Ljava/lang/Object;)Z"⟩ : MethodName)) (z := (⟨"java/lang/String", "equals", "(Ljava/lang/Object;)Z"⟩ : MethodName)) (w172 hw) (w173 hw) (o_nf W113 rfl (w175 hw)) (w175 hw) (w174 hw) (by decide) P113_2 (argsL := [(.ref b98)]) (CtrN.back (Wd := 0) W113 (rm52 l Z a0 hw gCS r1_113 b98 r2_113 t103 r3_113 (StrChars.lo8 (105 : Int32)) (StrChars.lo8 (110 : Int32)) (StrChars.lo8 (118 : Int32)) (StrChars.lo8 (97 : Int32)) (StrChars.lo8 (108 : Int32)) (StrChars.lo8 (100 : Int32)) (StrChars.lo8 (58 : Int32)) (StrChars.lo8 (32 : Int32)) (StrChars.lo8 (p1 &&& (255 : Int32))) (StrChars.lo8 (p2 &&& (255 : Int32))) kb103 (p1 &&& (255 : Int32)) (p2 &&& (255 : Int32)) h113 W113.old P113_2 c117 (own_ne' c118.lt P113_0) SgCS NgCS P113_4 c114 P113_3 c115 P113_5 c116 rfl rfl rfl rfl rfl rfl rfl rfl rfl rfl) (w176 hw) (w3 hw) (by decide) (by decide)) (by rw [hml]; rfl) (lenOf pd21 rfl) (S := []) rfl (by exact Nat.le_of_eq rfl) (pc' := 476) (hb hy at_473) rfl (cells' := 21) (slots' := 173) rfl rfl (by decide) (by decide) (wy := []) (fun _ _ _ q => ⟨q.1, q.2.1⟩) all0 (fun _ K => IW.keep K sf0 W113.inv) ?_
        intro v119 T119 h119 lo119 W119 K119 q119
        obtain rfl := q119.2.2
        show Gl _ _ _ _ _ _ _ _ [(.int 1)]
        exact o_retNW W119 (own_EL hw) hlk (t := .boolean) hret (by simp) (z' := (1 : Int32)) (by decide) (hb hy at_476) (by decide) (by decide) rfl
    · refine o_icmpN W56 (pc' := 367) (hb hy at_364) (XT.ii_ne_f hq58) rfl ?_
      refine o_new W56 (w1 hw) (w2 hw) (w3 hw) (fun _ E => IW.ext E W56.inv) (pc' := 370) (hb hy at_367) rfl (cells' := 9) (slots' := 52) rfl rfl (by decide) (by decide) ?_
      intro b120 T120 h120 W120 E120 ge120 gz120 gb120 A120 D120
      have Fb120_value : Fld Z h120 b120 "java/lang/String" "value" "[B" .null := D120 (Or.inr (w16 hw)) (ty := (.array .byte)) (by decide)
      have Fb120_coder : Fld Z h120 b120 "java/lang/String" "coder" "B" (.int 0) := D120 (Or.inr (w17 hw)) (ty := .byte) (by decide)
      refine o_dup W120 (pc' := 371) (hb hy at_370) rfl rfl ?_
      refine o_aload W120 (pc' := 373) (hb hy at_371) rfl rfl rfl ?_
      have c121 := (((V3.ext E4).other R5 (own_ne V3.lt ge4)).other R6 (own_ne V3.lt ge4))
      have c122 := ((((c121.ext E7).other R8 (own_ne c121.lt ge7)).other R9 (own_ne c121.lt ge7)).other R10 (own_ne c121.lt ge7))
      have c123 := ((((((((((c122.ext E11).other R12 (own_ne c122.lt ge11)).other R13 (own_ne c122.lt ge11)).other R14 (own_ne c122.lt ge11)).other R15 (own_ne c122.lt ge11)).other R16 (own_ne c122.lt ge11)).other R17 (own_ne c122.lt ge11)).other R18 (own_ne c122.lt ge11)).other R19 (own_ne c122.lt ge11)).other R20 (own_ne c122.lt ge11))
      have c124 := (((((((((((c123.ext E21).other R22 (own_ne c123.lt ge21)).other R23 (own_ne c123.lt ge21)).other R24 (own_ne c123.lt ge21)).other R25 (own_ne c123.lt ge21)).other R26 (own_ne c123.lt ge21)).other R27 (own_ne c123.lt ge21)).other R28 (own_ne c123.lt ge21)).other R29 (own_ne c123.lt ge21)).other R30 (own_ne c123.lt ge21)).other R31 (own_ne c123.lt ge21))
      have c125 := ((((((((((((c124.ext E32).other R33 (own_ne c124.lt ge32)).other R34 (own_ne c124.lt ge32)).other R35 (own_ne c124.lt ge32)).other R36 (own_ne c124.lt ge32)).other R37 (own_ne c124.lt ge32)).other R38 (own_ne c124.lt ge32)).other R39 (own_ne c124.lt ge32)).other R40 (own_ne c124.lt ge32)).other R41 (own_ne c124.lt ge32)).other R42 (own_ne c124.lt ge32)).other R43 (own_ne c124.lt ge32))
      have c126 := ((((((((((((((((((((((((((((((((((((((((((((((((((((((V3.ext E4).other R5 (own_ne V3.lt ge4)).other R6 (own_ne V3.lt ge4)).ext E7).other R8 (own_ne c121.lt ge7)).other R9 (own_ne c121.lt ge7)).other R10 (own_ne c121.lt ge7)).ext E11).other R12 (own_ne c122.lt ge11)).other R13 (own_ne c122.lt ge11)).other R14 (own_ne c122.lt ge11)).other R15 (own_ne c122.lt ge11)).other R16 (own_ne c122.lt ge11)).other R17 (own_ne c122.lt ge11)).other R18 (own_ne c122.lt ge11)).other R19 (own_ne c122.lt ge11)).other R20 (own_ne c122.lt ge11)).ext E21).other R22 (own_ne c123.lt ge21)).other R23 (own_ne c123.lt ge21)).other R24 (own_ne c123.lt ge21)).other R25 (own_ne c123.lt ge21)).other R26 (own_ne c123.lt ge21)).other R27 (own_ne c123.lt ge21)).other R28 (own_ne c123.lt ge21)).other R29 (own_ne c123.lt ge21)).other R30 (own_ne c123.lt ge21)).other R31 (own_ne c123.lt ge21)).ext E32).other R33 (own_ne c124.lt ge32)).other R34 (own_ne c124.lt ge32)).other R35 (own_ne c124.lt ge32)).other R36 (own_ne c124.lt ge32)).other R37 (own_ne c124.lt ge32)).other R38 (own_ne c124.lt ge32)).other R39 (own_ne c124.lt ge32)).other R40 (own_ne c124.lt ge32)).other R41 (own_ne c124.lt ge32)).other R42 (own_ne c124.lt ge32)).other R43 (own_ne c124.lt ge32)).ext E44).other R45 (own_ne c125.lt ge44)).other R46 (own_ne c125.lt ge44)).other R47 (own_ne c125.lt ge44)).other R48 (own_ne c125.lt ge44)).other R49 (own_ne c125.lt ge44)).other R50 (own_ne c125.lt ge44)).other R51 (own_ne c125.lt ge44)).other R52 (own_ne c125.lt ge44)).other R53 (own_ne c125.lt ge44)).other R54 (own_ne c125.lt ge44)).other R55 (own_ne c125.lt ge44)).other R56 (own_ne c125.lt ge44)).ext E120)
      have ok127 : own_ok [(p1 &&& (255 : Int32))] := ⟨by simp only [List.mem_cons, List.not_mem_nil, or_false, forall_eq_or_imp, forall_eq, false_imp_iff, implies_true]; exact (own_b255 _), Nat.le_of_ble_eq_true rfl⟩
      have sf128 := own_safeS (EL := consts_1) W120.al A120 Fb120_value
      refine o_special W120 (y := (⟨"java/lang/String", "<init>", "([C)V"⟩ : MethodName)) rfl (w4 hw) (w5 hw) (w6 hw) (by decide) (a := b120) (argsL := [(.ref b2)]) (StrChars.Road.backV (W := 1) W120.2.2.2.1 (own_hV hw) (kI := 4) (w2 hw) (cs := [(p1 &&& (255 : Int32))]) (bs := [((p1 &&& (255 : Int32))).toInt8.toInt32]) (n := 1) (n0 := Z.heap.size) gz120 W120.zs A120 Fb120_value Fb120_coder c126 (SgCS.ext W120.ox) NgCS rfl rfl (by decide) (by decide) ok127.1 rfl (by decide) (by decide)) (by rw [hml]; rfl) (lenOf pd0 rfl) (S := [(.ref b120)]) rfl (by exact Nat.le_of_eq rfl) (pc' := 376) (hb hy at_373) rfl (cells' := 10) (slots' := 53) rfl rfl (by decide) (by decide) (wy := [b120]) (fun _ _ _ q => ⟨q.2.1, q.2.2.1⟩) (allS ⟨gz120, (Or.inr gb120)⟩ all0) (fun _ K => IW.keep K (sfS sf128 sf0) W120.inv) ?_
      intro v129 T129 h129 lo129 W129 K129 q129
      obtain ⟨rfl, -, -, X129, Fc129, t129, kb129, gz129, ge129, -, Fv129, A129⟩ := q129
      have B129 : Arv Z h129 t129 kb129 .byte (1 : Int32) [(.int (StrChars.lo8 (p1 &&& (255 : Int32))))] (.int 0) := A129
      show Gl _ _ _ _ _ _ _ _ [(.ref b120)]
      refine o_astore W129 (L' := #[.val (.int p0), .val (.int p1), .val (.int p2), .val (.int p3), .val (.int (p1 &&& (255 : Int32))), .val (.int (p2 &&& (255 : Int32))), .val (.int (p3 &&& (255 : Int32))), .val (.int (p0 &&& (3 : Int32))), .val (.ref b1), .val (.ref b2), .val (.ref b4), .val (.ref b7), .val (.ref b11), .val (.ref b21), .val (.ref b32), .val (.ref b44), .val (.ref b120), .unset, .unset, .unset]) (pc' := 378) (hb hy at_376) rfl rfl rfl ?_
      refine o_new W129 (w1 hw) (w2 hw) (w3 hw) (fun _ E => IW.ext E W129.inv) (pc' := 381) (hb hy at_378) rfl (cells' := 11) (slots' := 57) rfl rfl (by decide) (by decide) ?_
      intro b130 T130 h130 W130 E130 ge130 gz130 gb130 A130 D130
      have Fb130_value : Fld Z h130 b130 "java/lang/String" "value" "[B" .null := D130 (Or.inr (w16 hw)) (ty := (.array .byte)) (by decide)
      have Fb130_coder : Fld Z h130 b130 "java/lang/String" "coder" "B" (.int 0) := D130 (Or.inr (w17 hw)) (ty := .byte) (by decide)
      refine o_dup W130 (pc' := 382) (hb hy at_381) rfl rfl ?_
      refine o_aload W130 (pc' := 384) (hb hy at_382) rfl rfl rfl ?_
      have c131 := ((((((((((((V31.ext E32).other R33 (own_ne V31.lt ge32)).other R34 (own_ne V31.lt ge32)).other R35 (own_ne V31.lt ge32)).other R36 (own_ne V31.lt ge32)).other R37 (own_ne V31.lt ge32)).other R38 (own_ne V31.lt ge32)).other R39 (own_ne V31.lt ge32)).other R40 (own_ne V31.lt ge32)).other R41 (own_ne V31.lt ge32)).other R42 (own_ne V31.lt ge32)).other R43 (own_ne V31.lt ge32))
      have c132 := (((((((((((((c131.ext E44).other R45 (own_ne c131.lt ge44)).other R46 (own_ne c131.lt ge44)).other R47 (own_ne c131.lt ge44)).other R48 (own_ne c131.lt ge44)).other R49 (own_ne c131.lt ge44)).other R50 (own_ne c131.lt ge44)).other R51 (own_ne c131.lt ge44)).other R52 (own_ne c131.lt ge44)).other R53 (own_ne c131.lt ge44)).other R54 (own_ne c131.lt ge44)).other R55 (own_ne c131.lt ge44)).other R56 (own_ne c131.lt ge44))
      have c133 := ((((((((((((((((((((((((((((V31.ext E32).other R33 (own_ne V31.lt ge32)).other R34 (own_ne V31.lt ge32)).other R35 (own_ne V31.lt ge32)).other R36 (own_ne V31.lt ge32)).other R37 (own_ne V31.lt ge32)).other R38 (own_ne V31.lt ge32)).other R39 (own_ne V31.lt ge32)).other R40 (own_ne V31.lt ge32)).other R41 (own_ne V31.lt ge32)).other R42 (own_ne V31.lt ge32)).other R43 (own_ne V31.lt ge32)).ext E44).other R45 (own_ne c131.lt ge44)).other R46 (own_ne c131.lt ge44)).other R47 (own_ne c131.lt ge44)).other R48 (own_ne c131.lt ge44)).other R49 (own_ne c131.lt ge44)).other R50 (own_ne c131.lt ge44)).other R51 (own_ne c131.lt ge44)).other R52 (own_ne c131.lt ge44)).other R53 (own_ne c131.lt ge44)).other R54 (own_ne c131.lt ge44)).other R55 (own_ne c131.lt ge44)).other R56 (own_ne c131.lt ge44)).ext E120).keep K129 (ninS (own_ne c132.lt ge120) nin0)).ext E130)
      have ok134 : own_ok [(105 : Int32), (110 : Int32), (118 : Int32), (97 : Int32), (108 : Int32), (105 : Int32), (100 : Int32), (58 : Int32), (32 : Int32), (p1 &&& (255 : Int32))] := ⟨by simp only [List.mem_cons, List.not_mem_nil, or_false, forall_eq_or_imp, forall_eq, false_imp_iff, implies_true]; exact ⟨(by unfold own_b; decide), (by unfold own_b; decide), (by unfold own_b; decide), (by unfold own_b; decide), (by unfold own_b; decide), (by unfold own_b; decide), (by unfold own_b; decide), (by unfold own_b; decide), (by unfold own_b; decide), (own_b255 _)⟩, Nat.le_of_ble_eq_true rfl⟩
      have sf135 := own_safeS (EL := consts_1) W130.al A130 Fb130_value
      refine o_special W130 (y := (⟨"java/lang/String", "<init>", "([C)V"⟩ : MethodName)) rfl (w4 hw) (w5 hw) (w6 hw) (by decide) (a := b130) (argsL := [(.ref b21)]) (StrChars.Road.backV (W := 1) W130.2.2.2.1 (own_hV hw) (kI := 4) (w2 hw) (cs := [(105 : Int32), (110 : Int32), (118 : Int32), (97 : Int32), (108 : Int32), (105 : Int32), (100 : Int32), (58 : Int32), (32 : Int32), (p1 &&& (255 : Int32))]) (bs := [((105 : Int32)).toInt8.toInt32, ((110 : Int32)).toInt8.toInt32, ((118 : Int32)).toInt8.toInt32, ((97 : Int32)).toInt8.toInt32, ((108 : Int32)).toInt8.toInt32, ((105 : Int32)).toInt8.toInt32, ((100 : Int32)).toInt8.toInt32, ((58 : Int32)).toInt8.toInt32, ((32 : Int32)).toInt8.toInt32, ((p1 &&& (255 : Int32))).toInt8.toInt32]) (n := 10) (n0 := Z.heap.size) gz130 W130.zs A130 Fb130_value Fb130_coder c133 (SgCS.ext W130.ox) NgCS rfl rfl (by decide) (by decide) ok134.1 rfl (by decide) (by decide)) (by rw [hml]; rfl) (lenOf pd0 rfl) (S := [(.ref b130)]) rfl (by exact Nat.le_of_eq rfl) (pc' := 387) (hb hy at_384) rfl (cells' := 12) (slots' := 67) rfl rfl (by decide) (by decide) (wy := [b130]) (fun _ _ _ q => ⟨q.2.1, q.2.2.1⟩) (allS ⟨gz130, (Or.inr gb130)⟩ all0) (fun _ K => IW.keep K (sfS sf135 sf0) W130.inv) ?_
      intro v136 T136 h136 lo136 W136 K136 q136
      obtain ⟨rfl, -, -, X136, Fc136, t136, kb136, gz136, ge136, -, Fv136, A136⟩ := q136
      have B136 : Arv Z h136 t136 kb136 .byte (10 : Int32) [(.int (StrChars.lo8 (105 : Int32))), (.int (StrChars.lo8 (110 : Int32))), (.int (StrChars.lo8 (118 : Int32))), (.int (StrChars.lo8 (97 : Int32))), (.int (StrChars.lo8 (108 : Int32))), (.int (StrChars.lo8 (105 : Int32))), (.int (StrChars.lo8 (100 : Int32))), (.int (StrChars.lo8 (58 : Int32))), (.int (StrChars.lo8 (32 : Int32))), (.int (StrChars.lo8 (p1 &&& (255 : Int32))))] (.int 0) := A136
      show Gl _ _ _ _ _ _ _ _ [(.ref b130)]
      refine o_astore W136 (L' := #[.val (.int p0), .val (.int p1), .val (.int p2), .val (.int p3), .val (.int (p1 &&& (255 : Int32))), .val (.int (p2 &&& (255 : Int32))), .val (.int (p3 &&& (255 : Int32))), .val (.int (p0 &&& (3 : Int32))), .val (.ref b1), .val (.ref b2), .val (.ref b4), .val (.ref b7), .val (.ref b11), .val (.ref b21), .val (.ref b32), .val (.ref b44), .val (.ref b120), .val (.ref b130), .unset, .unset]) (pc' := 389) (hb hy at_387) rfl rfl rfl ?_
      refine o_goto W136 (pc' := 445) (hb hy at_389) (by decide) rfl ?_
      refine o_aload W136 (pc' := 447) (hb hy at_445) rfl rfl rfl ?_
      have c137 := ((X129.ext E130).keep K136)
      refine o_staticW W136 (y := (⟨"com/example/countersign/countersign/Verdict", "invalid", "(Ljava/lang/String;)Lcom/example/countersign/countersign/Verdict;"⟩ : MethodName)) (w33 hw) (w34 hw) (w35 hw) (w36 hw) (by decide) (argsL := [(.ref b120)]) (CtrW.back (Wd := 0) W136 (rm3 l Z a0 hw b120 h136 W136.old c137) (w36 hw) (w35 hw) (by decide) (by decide) (own_EL hw)) (by rw [hml]; rfl) (lenOf pd3 rfl) (S := []) rfl (by exact Nat.le_of_eq rfl) (pc' := 450) (hb hy at_447) rfl (cells' := 15) (slots' := 96) rfl rfl (by decide) (by decide) (wy := []) (fun _ _ _ q => ⟨q.1, q.2.1⟩) all0  ?_
      intro v138 T138 h138 V138 lo138 W138 K138 C138 q138
      obtain ⟨r1_138, P138_0, P138_1, P138_2, rfl⟩ := q138.2.2
      show Gl _ _ _ _ _ _ _ _ [(.ref r1_138)]
      refine o_astore W138 (L' := #[.val (.int p0), .val (.int p1), .val (.int p2), .val (.int p3), .val (.int (p1 &&& (255 : Int32))), .val (.int (p2 &&& (255 : Int32))), .val (.int (p3 &&& (255 : Int32))), .val (.int (p0 &&& (3 : Int32))), .val (.ref b1), .val (.ref b2), .val (.ref b4), .val (.ref b7), .val (.ref b11), .val (.ref b21), .val (.ref b32), .val (.ref b44), .val (.ref b120), .val (.ref b130), .val (.ref r1_138), .unset]) (pc' := 452) (hb hy at_450) rfl rfl rfl ?_
      refine o_aload W138 (pc' := 454) (hb hy at_452) rfl rfl rfl ?_
      refine o_virtual W138 (y := (⟨"com/example/countersign/countersign/Verdict", "isValid", "()Z"⟩ : MethodName)) (z := (⟨"com/example/countersign/countersign/Verdict", "isValid", "()Z"⟩ : MethodName)) (w51 hw) (w52 hw) (o_nf W138 rfl (w54 hw)) (w54 hw) (w53 hw) (by decide) P138_1 (argsL := []) (CtrN.back (Wd := 0) W138 (rm4 l Z a0 hw r1_138 b120 h138 W138.old P138_2) (w55 hw) (w35 hw) (by decide) (by decide)) (by rw [hml]; rfl) (lenOf pd4 rfl) (S := []) rfl (by exact Nat.le_of_eq rfl) (pc' := 457) (hb hy at_454) rfl (cells' := 15) (slots' := 96) rfl rfl (by decide) (by decide) (wy := []) (fun _ _ _ q => ⟨q.1, q.2.1⟩) all0 (fun _ K => IW.keep K sf0 W138.inv) ?_
      intro v139 T139 h139 lo139 W139 K139 q139
      obtain rfl := q139.2.2
      show Gl _ _ _ _ _ _ _ _ [(.int 0)]
      refine o_ifY W139 (pc' := 462) (hb hy at_457) (XT.i0_eq_t (by decide)) (by decide) rfl ?_
      refine o_aload W139 (pc' := 464) (hb hy at_462) rfl rfl rfl ?_
      have c140 := (P138_2.keep K139 nin0)
      have c141 := ((((Fv129.ext E130).keep K136 (ninS (own_ne X129.lt ge130) nin0)).keep K138 nin0).keep K139 nin0)
      have c142 := ((((B129.ext E130).keep K136 (ninS (own_ne B129.lt ge130) nin0)).keep K138 nin0).keep K139 nin0)
      have c143 := ((((Fc129.ext E130).keep K136 (ninS (own_ne X129.lt ge130) nin0)).keep K138 nin0).keep K139 nin0)
      have c144 := ((c137.keep K138).keep K139)
      have c145 := (P138_1.keep K139)
      refine o_virtualW W139 (y := (⟨"com/example/countersign/countersign/Verdict", "toString", "()Ljava/lang/String;"⟩ : MethodName)) (z := (⟨"com/example/countersign/countersign/Verdict", "toString", "()Ljava/lang/String;"⟩ : MethodName)) (w56 hw) (w57 hw) (o_nf W139 rfl (w59 hw)) (w59 hw) (w58 hw) (by decide) c145 (argsL := []) (CtrW.back (Wd := 0) W139 (rm68 l Z a0 hw gCS r1_138 b120 t129 kb129 (p1 &&& (255 : Int32)) h139 W139.old c140 SgCS NgCS c144 c141 c142 c143) (w60 hw) (w35 hw) (by decide) (by decide) (own_EL hw)) (by rw [hml]; rfl) (lenOf pd19 rfl) (S := []) rfl (by exact Nat.le_of_eq rfl) (pc' := 467) (hb hy at_464) rfl (cells' := 21) (slots' := 170) rfl rfl (by decide) (by decide) (wy := []) (fun _ _ _ q => ⟨q.1, q.2.1⟩) all0  ?_
      intro v146 T146 h146 V146 lo146 W146 K146 C146 q146
      obtain ⟨r1_146, r2_146, r3_146, P146_0, P146_1, P146_2, P146_3, P146_4, P146_5, rfl⟩ := q146.2.2
      show Gl _ _ _ _ _ _ _ _ [(.ref r1_146)]
      refine o_astore W146 (L' := #[.val (.int p0), .val (.int p1), .val (.int p2), .val (.int p3), .val (.int (p1 &&& (255 : Int32))), .val (.int (p2 &&& (255 : Int32))), .val (.int (p3 &&& (255 : Int32))), .val (.int (p0 &&& (3 : Int32))), .val (.ref b1), .val (.ref b2), .val (.ref b4), .val (.ref b7), .val (.ref b11), .val (.ref b21), .val (.ref b32), .val (.ref b44), .val (.ref b120), .val (.ref b130), .val (.ref r1_138), .val (.ref r1_146)]) (pc' := 469) (hb hy at_467) rfl rfl rfl ?_
      refine o_aload W146 (pc' := 471) (hb hy at_469) rfl rfl rfl ?_
      refine o_aload W146 (pc' := 473) (hb hy at_471) rfl rfl rfl ?_
      have c147 := (((Fc136.keep K138 nin0).keep K139 nin0).keep K146 nin0)
      have c148 := (((Fv136.keep K138 nin0).keep K139 nin0).keep K146 nin0)
      have c149 := (((B136.keep K138 nin0).keep K139 nin0).keep K146 nin0)
      have c150 := (((X136.keep K138).keep K139).keep K146)
      have c151 := ((X136.keep K138).keep K139)
      refine o_virtual W146 (y := (⟨"java/lang/String", "equals", "(Ljava/lang/Object;)Z"⟩ : MethodName)) (z := (⟨"java/lang/String", "equals", "(Ljava/lang/Object;)Z"⟩ : MethodName)) (w172 hw) (w173 hw) (o_nf W146 rfl (w175 hw)) (w175 hw) (w174 hw) (by decide) P146_2 (argsL := [(.ref b130)]) (CtrN.back (Wd := 0) W146 (rm70 l Z a0 hw gCS r1_146 b130 r2_146 t136 r3_146 (StrChars.lo8 (105 : Int32)) (StrChars.lo8 (110 : Int32)) (StrChars.lo8 (118 : Int32)) (StrChars.lo8 (97 : Int32)) (StrChars.lo8 (108 : Int32)) (StrChars.lo8 (100 : Int32)) (StrChars.lo8 (58 : Int32)) (StrChars.lo8 (32 : Int32)) (StrChars.lo8 (p1 &&& (255 : Int32))) kb136 (p1 &&& (255 : Int32)) h146 W146.old P146_2 c150 (own_ne' c151.lt P146_0) SgCS NgCS P146_4 c147 P146_3 c148 P146_5 c149 rfl rfl rfl rfl rfl rfl rfl rfl rfl) (w176 hw) (w3 hw) (by decide) (by decide)) (by rw [hml]; rfl) (lenOf pd21 rfl) (S := []) rfl (by exact Nat.le_of_eq rfl) (pc' := 476) (hb hy at_473) rfl (cells' := 21) (slots' := 170) rfl rfl (by decide) (by decide) (wy := []) (fun _ _ _ q => ⟨q.1, q.2.1⟩) all0 (fun _ K => IW.keep K sf0 W146.inv) ?_
      intro v152 T152 h152 lo152 W152 K152 q152
      obtain rfl := q152.2.2
      show Gl _ _ _ _ _ _ _ _ [(.int 1)]
      exact o_retNW W152 (own_EL hw) hlk (t := .boolean) hret (by simp) (z' := (1 : Int32)) (by decide) (hb hy at_476) (by decide) (by decide) rfl
  · refine o_ifN W56 (pc' := 336) (hb hy at_333) (XT.i0_ne_f hq57) rfl ?_
    refine o_new W56 (w1 hw) (w2 hw) (w3 hw) (fun _ E => IW.ext E W56.inv) (pc' := 339) (hb hy at_336) rfl (cells' := 9) (slots' := 52) rfl rfl (by decide) (by decide) ?_
    intro b153 T153 h153 W153 E153 ge153 gz153 gb153 A153 D153
    have Fb153_value : Fld Z h153 b153 "java/lang/String" "value" "[B" .null := D153 (Or.inr (w16 hw)) (ty := (.array .byte)) (by decide)
    have Fb153_coder : Fld Z h153 b153 "java/lang/String" "coder" "B" (.int 0) := D153 (Or.inr (w17 hw)) (ty := .byte) (by decide)
    refine o_dup W153 (pc' := 340) (hb hy at_339) rfl rfl ?_
    refine o_aload W153 (pc' := 342) (hb hy at_340) rfl rfl rfl ?_
    have c154 := ((V1.ext E2).other R3 (own_ne V1.lt ge2))
    have c155 := (((c154.ext E4).other R5 (own_ne c154.lt ge4)).other R6 (own_ne c154.lt ge4))
    have c156 := ((((c155.ext E7).other R8 (own_ne c155.lt ge7)).other R9 (own_ne c155.lt ge7)).other R10 (own_ne c155.lt ge7))
    have c157 := ((((((((((c156.ext E11).other R12 (own_ne c156.lt ge11)).other R13 (own_ne c156.lt ge11)).other R14 (own_ne c156.lt ge11)).other R15 (own_ne c156.lt ge11)).other R16 (own_ne c156.lt ge11)).other R17 (own_ne c156.lt ge11)).other R18 (own_ne c156.lt ge11)).other R19 (own_ne c156.lt ge11)).other R20 (own_ne c156.lt ge11))
    have c158 := (((((((((((c157.ext E21).other R22 (own_ne c157.lt ge21)).other R23 (own_ne c157.lt ge21)).other R24 (own_ne c157.lt ge21)).other R25 (own_ne c157.lt ge21)).other R26 (own_ne c157.lt ge21)).other R27 (own_ne c157.lt ge21)).other R28 (own_ne c157.lt ge21)).other R29 (own_ne c157.lt ge21)).other R30 (own_ne c157.lt ge21)).other R31 (own_ne c157.lt ge21))
    have c159 := ((((((((((((c158.ext E32).other R33 (own_ne c158.lt ge32)).other R34 (own_ne c158.lt ge32)).other R35 (own_ne c158.lt ge32)).other R36 (own_ne c158.lt ge32)).other R37 (own_ne c158.lt ge32)).other R38 (own_ne c158.lt ge32)).other R39 (own_ne c158.lt ge32)).other R40 (own_ne c158.lt ge32)).other R41 (own_ne c158.lt ge32)).other R42 (own_ne c158.lt ge32)).other R43 (own_ne c158.lt ge32))
    have c160 := ((((((((((((((((((((((((((((((((((((((((((((((((((((((((V1.ext E2).other R3 (own_ne V1.lt ge2)).ext E4).other R5 (own_ne c154.lt ge4)).other R6 (own_ne c154.lt ge4)).ext E7).other R8 (own_ne c155.lt ge7)).other R9 (own_ne c155.lt ge7)).other R10 (own_ne c155.lt ge7)).ext E11).other R12 (own_ne c156.lt ge11)).other R13 (own_ne c156.lt ge11)).other R14 (own_ne c156.lt ge11)).other R15 (own_ne c156.lt ge11)).other R16 (own_ne c156.lt ge11)).other R17 (own_ne c156.lt ge11)).other R18 (own_ne c156.lt ge11)).other R19 (own_ne c156.lt ge11)).other R20 (own_ne c156.lt ge11)).ext E21).other R22 (own_ne c157.lt ge21)).other R23 (own_ne c157.lt ge21)).other R24 (own_ne c157.lt ge21)).other R25 (own_ne c157.lt ge21)).other R26 (own_ne c157.lt ge21)).other R27 (own_ne c157.lt ge21)).other R28 (own_ne c157.lt ge21)).other R29 (own_ne c157.lt ge21)).other R30 (own_ne c157.lt ge21)).other R31 (own_ne c157.lt ge21)).ext E32).other R33 (own_ne c158.lt ge32)).other R34 (own_ne c158.lt ge32)).other R35 (own_ne c158.lt ge32)).other R36 (own_ne c158.lt ge32)).other R37 (own_ne c158.lt ge32)).other R38 (own_ne c158.lt ge32)).other R39 (own_ne c158.lt ge32)).other R40 (own_ne c158.lt ge32)).other R41 (own_ne c158.lt ge32)).other R42 (own_ne c158.lt ge32)).other R43 (own_ne c158.lt ge32)).ext E44).other R45 (own_ne c159.lt ge44)).other R46 (own_ne c159.lt ge44)).other R47 (own_ne c159.lt ge44)).other R48 (own_ne c159.lt ge44)).other R49 (own_ne c159.lt ge44)).other R50 (own_ne c159.lt ge44)).other R51 (own_ne c159.lt ge44)).other R52 (own_ne c159.lt ge44)).other R53 (own_ne c159.lt ge44)).other R54 (own_ne c159.lt ge44)).other R55 (own_ne c159.lt ge44)).other R56 (own_ne c159.lt ge44)).ext E153)
    refine o_specialW W153 (y := (⟨"java/lang/String", "<init>", "([C)V"⟩ : MethodName)) rfl (w4 hw) (w5 hw) (w6 hw) (by decide) (a := b153) (argsL := [(.ref b1)]) (CtrW.back (Wd := 1) W153 (rm72 l Z a0 hw b153 b1 k1 h153 W153.old c160 A153 Fb153_value Fb153_coder gz153) (w6 hw) (w3 hw) (by decide) (by decide) (own_EL hw)) (by rw [hml]; rfl) (lenOf pd0 rfl) (S := [(.ref b153)]) rfl (by exact Nat.le_of_eq rfl) (pc' := 345) (hb hy at_342) rfl (cells' := 13) (slots' := 60) rfl rfl (by decide) (by decide) (wy := [b153]) (fun _ _ _ q => ⟨q.1, q.2.1⟩) (allS ⟨gz153, (Or.inr gb153)⟩ all0)  ?_
    intro v161 T161 h161 V161 lo161 W161 K161 C161 q161
    obtain ⟨r1_161, r2_161, P161_0, P161_1, P161_2, rfl⟩ := q161.2.2
    show Gl _ _ _ _ _ _ _ _ [(.ref b153)]
    refine o_astore W161 (L' := #[.val (.int p0), .val (.int p1), .val (.int p2), .val (.int p3), .val (.int (p1 &&& (255 : Int32))), .val (.int (p2 &&& (255 : Int32))), .val (.int (p3 &&& (255 : Int32))), .val (.int (p0 &&& (3 : Int32))), .val (.ref b1), .val (.ref b2), .val (.ref b4), .val (.ref b7), .val (.ref b11), .val (.ref b21), .val (.ref b32), .val (.ref b44), .val (.ref b153), .unset, .unset, .unset]) (pc' := 347) (hb hy at_345) rfl rfl rfl ?_
    refine o_new W161 (w1 hw) (w2 hw) (w3 hw) (fun _ E => IW.ext E W161.inv) (pc' := 350) (hb hy at_347) rfl (cells' := 14) (slots' := 64) rfl rfl (by decide) (by decide) ?_
    intro b162 T162 h162 W162 E162 ge162 gz162 gb162 A162 D162
    have Fb162_value : Fld Z h162 b162 "java/lang/String" "value" "[B" .null := D162 (Or.inr (w16 hw)) (ty := (.array .byte)) (by decide)
    have Fb162_coder : Fld Z h162 b162 "java/lang/String" "coder" "B" (.int 0) := D162 (Or.inr (w17 hw)) (ty := .byte) (by decide)
    refine o_dup W162 (pc' := 351) (hb hy at_350) rfl rfl ?_
    refine o_aload W162 (pc' := 353) (hb hy at_351) rfl rfl rfl ?_
    have c163 := (((((((((((V20.ext E21).other R22 (own_ne V20.lt ge21)).other R23 (own_ne V20.lt ge21)).other R24 (own_ne V20.lt ge21)).other R25 (own_ne V20.lt ge21)).other R26 (own_ne V20.lt ge21)).other R27 (own_ne V20.lt ge21)).other R28 (own_ne V20.lt ge21)).other R29 (own_ne V20.lt ge21)).other R30 (own_ne V20.lt ge21)).other R31 (own_ne V20.lt ge21))
    have c164 := ((((((((((((c163.ext E32).other R33 (own_ne c163.lt ge32)).other R34 (own_ne c163.lt ge32)).other R35 (own_ne c163.lt ge32)).other R36 (own_ne c163.lt ge32)).other R37 (own_ne c163.lt ge32)).other R38 (own_ne c163.lt ge32)).other R39 (own_ne c163.lt ge32)).other R40 (own_ne c163.lt ge32)).other R41 (own_ne c163.lt ge32)).other R42 (own_ne c163.lt ge32)).other R43 (own_ne c163.lt ge32))
    have c165 := (((((((((((((c164.ext E44).other R45 (own_ne c164.lt ge44)).other R46 (own_ne c164.lt ge44)).other R47 (own_ne c164.lt ge44)).other R48 (own_ne c164.lt ge44)).other R49 (own_ne c164.lt ge44)).other R50 (own_ne c164.lt ge44)).other R51 (own_ne c164.lt ge44)).other R52 (own_ne c164.lt ge44)).other R53 (own_ne c164.lt ge44)).other R54 (own_ne c164.lt ge44)).other R55 (own_ne c164.lt ge44)).other R56 (own_ne c164.lt ge44))
    have c166 := (((((((((((((((((((((((((((((((((((((((V20.ext E21).other R22 (own_ne V20.lt ge21)).other R23 (own_ne V20.lt ge21)).other R24 (own_ne V20.lt ge21)).other R25 (own_ne V20.lt ge21)).other R26 (own_ne V20.lt ge21)).other R27 (own_ne V20.lt ge21)).other R28 (own_ne V20.lt ge21)).other R29 (own_ne V20.lt ge21)).other R30 (own_ne V20.lt ge21)).other R31 (own_ne V20.lt ge21)).ext E32).other R33 (own_ne c163.lt ge32)).other R34 (own_ne c163.lt ge32)).other R35 (own_ne c163.lt ge32)).other R36 (own_ne c163.lt ge32)).other R37 (own_ne c163.lt ge32)).other R38 (own_ne c163.lt ge32)).other R39 (own_ne c163.lt ge32)).other R40 (own_ne c163.lt ge32)).other R41 (own_ne c163.lt ge32)).other R42 (own_ne c163.lt ge32)).other R43 (own_ne c163.lt ge32)).ext E44).other R45 (own_ne c164.lt ge44)).other R46 (own_ne c164.lt ge44)).other R47 (own_ne c164.lt ge44)).other R48 (own_ne c164.lt ge44)).other R49 (own_ne c164.lt ge44)).other R50 (own_ne c164.lt ge44)).other R51 (own_ne c164.lt ge44)).other R52 (own_ne c164.lt ge44)).other R53 (own_ne c164.lt ge44)).other R54 (own_ne c164.lt ge44)).other R55 (own_ne c164.lt ge44)).other R56 (own_ne c164.lt ge44)).ext E153).keep K161 (ninS (own_ne c165.lt ge153) nin0)).ext E162)
    have ok167 : own_ok [(105 : Int32), (110 : Int32), (118 : Int32), (97 : Int32), (108 : Int32), (105 : Int32), (100 : Int32), (58 : Int32), (32 : Int32)] := ⟨by simp only [List.mem_cons, List.not_mem_nil, or_false, forall_eq_or_imp, forall_eq, false_imp_iff, implies_true]; exact ⟨(by unfold own_b; decide), (by unfold own_b; decide), (by unfold own_b; decide), (by unfold own_b; decide), (by unfold own_b; decide), (by unfold own_b; decide), (by unfold own_b; decide), (by unfold own_b; decide), (by unfold own_b; decide)⟩, Nat.le_of_ble_eq_true rfl⟩
    have sf168 := own_safeS (EL := consts_1) W162.al A162 Fb162_value
    refine o_special W162 (y := (⟨"java/lang/String", "<init>", "([C)V"⟩ : MethodName)) rfl (w4 hw) (w5 hw) (w6 hw) (by decide) (a := b162) (argsL := [(.ref b11)]) (StrChars.Road.backV (W := 1) W162.2.2.2.1 (own_hV hw) (kI := 4) (w2 hw) (cs := [(105 : Int32), (110 : Int32), (118 : Int32), (97 : Int32), (108 : Int32), (105 : Int32), (100 : Int32), (58 : Int32), (32 : Int32)]) (bs := [((105 : Int32)).toInt8.toInt32, ((110 : Int32)).toInt8.toInt32, ((118 : Int32)).toInt8.toInt32, ((97 : Int32)).toInt8.toInt32, ((108 : Int32)).toInt8.toInt32, ((105 : Int32)).toInt8.toInt32, ((100 : Int32)).toInt8.toInt32, ((58 : Int32)).toInt8.toInt32, ((32 : Int32)).toInt8.toInt32]) (n := 9) (n0 := Z.heap.size) gz162 W162.zs A162 Fb162_value Fb162_coder c166 (SgCS.ext W162.ox) NgCS rfl rfl (by decide) (by decide) ok167.1 rfl (by decide) (by decide)) (by rw [hml]; rfl) (lenOf pd0 rfl) (S := [(.ref b162)]) rfl (by exact Nat.le_of_eq rfl) (pc' := 356) (hb hy at_353) rfl (cells' := 15) (slots' := 73) rfl rfl (by decide) (by decide) (wy := [b162]) (fun _ _ _ q => ⟨q.2.1, q.2.2.1⟩) (allS ⟨gz162, (Or.inr gb162)⟩ all0) (fun _ K => IW.keep K (sfS sf168 sf0) W162.inv) ?_
    intro v169 T169 h169 lo169 W169 K169 q169
    obtain ⟨rfl, -, -, X169, Fc169, t169, kb169, gz169, ge169, -, Fv169, A169⟩ := q169
    have B169 : Arv Z h169 t169 kb169 .byte (9 : Int32) [(.int (StrChars.lo8 (105 : Int32))), (.int (StrChars.lo8 (110 : Int32))), (.int (StrChars.lo8 (118 : Int32))), (.int (StrChars.lo8 (97 : Int32))), (.int (StrChars.lo8 (108 : Int32))), (.int (StrChars.lo8 (105 : Int32))), (.int (StrChars.lo8 (100 : Int32))), (.int (StrChars.lo8 (58 : Int32))), (.int (StrChars.lo8 (32 : Int32)))] (.int 0) := A169
    show Gl _ _ _ _ _ _ _ _ [(.ref b162)]
    refine o_astore W169 (L' := #[.val (.int p0), .val (.int p1), .val (.int p2), .val (.int p3), .val (.int (p1 &&& (255 : Int32))), .val (.int (p2 &&& (255 : Int32))), .val (.int (p3 &&& (255 : Int32))), .val (.int (p0 &&& (3 : Int32))), .val (.ref b1), .val (.ref b2), .val (.ref b4), .val (.ref b7), .val (.ref b11), .val (.ref b21), .val (.ref b32), .val (.ref b44), .val (.ref b153), .val (.ref b162), .unset, .unset]) (pc' := 358) (hb hy at_356) rfl rfl rfl ?_
    refine o_goto W169 (pc' := 445) (hb hy at_358) (by decide) rfl ?_
    refine o_aload W169 (pc' := 447) (hb hy at_445) rfl rfl rfl ?_
    have c170 := (((A153.keep K161).ext E162).keep K169)
    refine o_staticW W169 (y := (⟨"com/example/countersign/countersign/Verdict", "invalid", "(Ljava/lang/String;)Lcom/example/countersign/countersign/Verdict;"⟩ : MethodName)) (w33 hw) (w34 hw) (w35 hw) (w36 hw) (by decide) (argsL := [(.ref b153)]) (CtrW.back (Wd := 0) W169 (rm3 l Z a0 hw b153 h169 W169.old c170) (w36 hw) (w35 hw) (by decide) (by decide) (own_EL hw)) (by rw [hml]; rfl) (lenOf pd3 rfl) (S := []) rfl (by exact Nat.le_of_eq rfl) (pc' := 450) (hb hy at_447) rfl (cells' := 18) (slots' := 102) rfl rfl (by decide) (by decide) (wy := []) (fun _ _ _ q => ⟨q.1, q.2.1⟩) all0  ?_
    intro v171 T171 h171 V171 lo171 W171 K171 C171 q171
    obtain ⟨r1_171, P171_0, P171_1, P171_2, rfl⟩ := q171.2.2
    show Gl _ _ _ _ _ _ _ _ [(.ref r1_171)]
    refine o_astore W171 (L' := #[.val (.int p0), .val (.int p1), .val (.int p2), .val (.int p3), .val (.int (p1 &&& (255 : Int32))), .val (.int (p2 &&& (255 : Int32))), .val (.int (p3 &&& (255 : Int32))), .val (.int (p0 &&& (3 : Int32))), .val (.ref b1), .val (.ref b2), .val (.ref b4), .val (.ref b7), .val (.ref b11), .val (.ref b21), .val (.ref b32), .val (.ref b44), .val (.ref b153), .val (.ref b162), .val (.ref r1_171), .unset]) (pc' := 452) (hb hy at_450) rfl rfl rfl ?_
    refine o_aload W171 (pc' := 454) (hb hy at_452) rfl rfl rfl ?_
    refine o_virtual W171 (y := (⟨"com/example/countersign/countersign/Verdict", "isValid", "()Z"⟩ : MethodName)) (z := (⟨"com/example/countersign/countersign/Verdict", "isValid", "()Z"⟩ : MethodName)) (w51 hw) (w52 hw) (o_nf W171 rfl (w54 hw)) (w54 hw) (w53 hw) (by decide) P171_1 (argsL := []) (CtrN.back (Wd := 0) W171 (rm4 l Z a0 hw r1_171 b153 h171 W171.old P171_2) (w55 hw) (w35 hw) (by decide) (by decide)) (by rw [hml]; rfl) (lenOf pd4 rfl) (S := []) rfl (by exact Nat.le_of_eq rfl) (pc' := 457) (hb hy at_454) rfl (cells' := 18) (slots' := 102) rfl rfl (by decide) (by decide) (wy := []) (fun _ _ _ q => ⟨q.1, q.2.1⟩) all0 (fun _ K => IW.keep K sf0 W171.inv) ?_
    intro v172 T172 h172 lo172 W172 K172 q172
    obtain rfl := q172.2.2
    show Gl _ _ _ _ _ _ _ _ [(.int 0)]
    refine o_ifY W172 (pc' := 462) (hb hy at_457) (XT.i0_eq_t (by decide)) (by decide) rfl ?_
    refine o_aload W172 (pc' := 464) (hb hy at_462) rfl rfl rfl ?_
    have c173 := (P171_2.keep K172 nin0)
    have c174 := (A153.keep K161)
    have c175 := ((((P161_0.ext E162).keep K169 (ninS (own_ne c174.lt ge162) nin0)).keep K171 nin0).keep K172 nin0)
    have c176 := ((((P161_2.ext E162).keep K169 (ninS (own_ne P161_2.lt ge162) nin0)).keep K171 nin0).keep K172 nin0)
    have c177 := ((((P161_1.ext E162).keep K169 (ninS (own_ne c174.lt ge162) nin0)).keep K171 nin0).keep K172 nin0)
    have c178 := ((c170.keep K171).keep K172)
    have c179 := (P171_1.keep K172)
    refine o_virtualW W172 (y := (⟨"com/example/countersign/countersign/Verdict", "toString", "()Ljava/lang/String;"⟩ : MethodName)) (z := (⟨"com/example/countersign/countersign/Verdict", "toString", "()Ljava/lang/String;"⟩ : MethodName)) (w56 hw) (w57 hw) (o_nf W172 rfl (w59 hw)) (w59 hw) (w58 hw) (by decide) c179 (argsL := []) (CtrW.back (Wd := 0) W172 (rm88 l Z a0 hw gCS r1_171 b153 r1_161 r2_161 h172 W172.old c173 SgCS NgCS c178 c175 c176 c177) (w60 hw) (w35 hw) (by decide) (by decide) (own_EL hw)) (by rw [hml]; rfl) (lenOf pd19 rfl) (S := []) rfl (by exact Nat.le_of_eq rfl) (pc' := 467) (hb hy at_464) rfl (cells' := 24) (slots' := 175) rfl rfl (by decide) (by decide) (wy := []) (fun _ _ _ q => ⟨q.1, q.2.1⟩) all0  ?_
    intro v180 T180 h180 V180 lo180 W180 K180 C180 q180
    obtain ⟨r1_180, r2_180, r3_180, P180_0, P180_1, P180_2, P180_3, P180_4, P180_5, rfl⟩ := q180.2.2
    show Gl _ _ _ _ _ _ _ _ [(.ref r1_180)]
    refine o_astore W180 (L' := #[.val (.int p0), .val (.int p1), .val (.int p2), .val (.int p3), .val (.int (p1 &&& (255 : Int32))), .val (.int (p2 &&& (255 : Int32))), .val (.int (p3 &&& (255 : Int32))), .val (.int (p0 &&& (3 : Int32))), .val (.ref b1), .val (.ref b2), .val (.ref b4), .val (.ref b7), .val (.ref b11), .val (.ref b21), .val (.ref b32), .val (.ref b44), .val (.ref b153), .val (.ref b162), .val (.ref r1_171), .val (.ref r1_180)]) (pc' := 469) (hb hy at_467) rfl rfl rfl ?_
    refine o_aload W180 (pc' := 471) (hb hy at_469) rfl rfl rfl ?_
    refine o_aload W180 (pc' := 473) (hb hy at_471) rfl rfl rfl ?_
    have c181 := (((Fc169.keep K171 nin0).keep K172 nin0).keep K180 nin0)
    have c182 := (((Fv169.keep K171 nin0).keep K172 nin0).keep K180 nin0)
    have c183 := (((B169.keep K171 nin0).keep K172 nin0).keep K180 nin0)
    have c184 := (((X169.keep K171).keep K172).keep K180)
    have c185 := ((X169.keep K171).keep K172)
    refine o_virtual W180 (y := (⟨"java/lang/String", "equals", "(Ljava/lang/Object;)Z"⟩ : MethodName)) (z := (⟨"java/lang/String", "equals", "(Ljava/lang/Object;)Z"⟩ : MethodName)) (w172 hw) (w173 hw) (o_nf W180 rfl (w175 hw)) (w175 hw) (w174 hw) (by decide) P180_2 (argsL := [(.ref b162)]) (CtrN.back (Wd := 0) W180 (rm90 l Z a0 hw gCS r1_180 b162 r2_180 t169 r3_180 (StrChars.lo8 (105 : Int32)) (StrChars.lo8 (110 : Int32)) (StrChars.lo8 (118 : Int32)) (StrChars.lo8 (97 : Int32)) (StrChars.lo8 (108 : Int32)) (StrChars.lo8 (100 : Int32)) (StrChars.lo8 (58 : Int32)) (StrChars.lo8 (32 : Int32)) kb169 h180 W180.old P180_2 c184 (own_ne' c185.lt P180_0) SgCS NgCS P180_4 c181 P180_3 c182 P180_5 c183 rfl rfl rfl rfl rfl rfl rfl rfl) (w176 hw) (w3 hw) (by decide) (by decide)) (by rw [hml]; rfl) (lenOf pd21 rfl) (S := []) rfl (by exact Nat.le_of_eq rfl) (pc' := 476) (hb hy at_473) rfl (cells' := 24) (slots' := 175) rfl rfl (by decide) (by decide) (wy := []) (fun _ _ _ q => ⟨q.1, q.2.1⟩) all0 (fun _ K => IW.keep K sf0 W180.inv) ?_
    intro v186 T186 h186 lo186 W186 K186 q186
    obtain rfl := q186.2.2
    show Gl _ _ _ _ _ _ _ _ [(.int 1)]
    exact o_retNW W186 (own_EL hw) hlk (t := .boolean) hret (by simp) (z' := (1 : Int32)) (by decide) (hb hy at_476) (by decide) (by decide) rfl
theorem comes_1 {Post : Tables → Env → Array Value → State → Outcome → State → Prop} (hpost : ∀ tb e args s v u, (limb_1_1.after args s (.returned v) u = true ∧ limb_1_2.after args s (.returned v) u = true ∧ True) → Jvm.ReturnedEndW s (.returned v) u (Jvm.fieldLocs frame_1_writes args s ++ Jvm.arrayLocs frame_1_arrays args s ++ Jvm.staticLocs frame_1_statics s) 48 3392 → Post tb e args s (.returned v) u) :
    ArmFor flags0 classFile x code maxLocals ret World_1 tables_1 room_1 Calls_1 rest_1 Pre_1 Post := by
  intro l hfl _ _ p e ha hc hk s m args below hf hA hF happ hP
  obtain ⟨hcalls, hrest, hpre⟩ := hP
  obtain ⟨-, -, -, hnamed, -, -, -, hat⟩ := (Spec.applies_iff hf).mp happ
  obtain ⟨hg, hn⟩ := and_e (Cond.before_iff.mp (show (Jvm.Cond.and given_1 narrow_1).before args s = true from hpre))
  obtain ⟨g1, g2⟩ := and_e hg
  obtain ⟨g3, g4⟩ := and_e g2
  obtain ⟨g5, g6⟩ := and_e g4
  obtain ⟨g7, g8⟩ := and_e g6
  obtain ⟨w0, w1, w2, w3, rfl⟩ : ∃ w0 w1 w2 w3 : Value, args = #[w0, w1, w2, w3] := by
    have hs : args.size = 4 := by simpa [Cond.value, given_1] using g1
    obtain ⟨L⟩ := args
    match L, hs with
    | [w0, w1, w2, w3], _ => exact ⟨w0, w1, w2, w3, rfl⟩
  obtain ⟨i0, ei0⟩ := is_v g3
  obtain rfl : w0 = (.int i0) := Option.some.inj ei0
  obtain ⟨i1, ei1⟩ := is_v g5
  obtain rfl : w1 = (.int i1) := Option.some.inj ei1
  obtain ⟨i2, ei2⟩ := is_v g7
  obtain rfl : w2 = (.int i2) := Option.some.inj ei2
  obtain ⟨i3, ei3⟩ := is_v g8
  obtain rfl : w3 = (.int i3) := Option.some.inj ei3
  have hw := fun d (hd : d ∈ tables_1) => atoms_spec (ws := Jvm.Cond.code x code maxLocals ret :: tables_1) hat d (List.mem_cons_of_mem _ hd)
  have hfit : Fit s := fun {y c} hc i hi => by
    obtain ⟨ha, rfl⟩ := Array.getElem?_eq_some_iff.mp hc
    have q := List.all_eq_true.mp ((Array.all_eq_true_iff_forall_mem.mp hF) _ (Array.getElem_mem ha)) i (List.mem_range.mpr hi)
    simpa [Array.getElem?_eq_getElem hi] using q
  obtain ⟨hsets, hown0⟩ := atoms_of _ (rest_1_c_eq ▸ (show rest_1_c.before _ s = true from hrest))
  obtain ⟨gCS, eCS⟩ := is_v (Cond.before_iff.mp (hsets _ (List.mem_of_getElem? (i := 1) rfl)))
  have SgCS := Sta.start eCS (Or.inl (hsets _ (List.mem_of_getElem? (i := 0) rfl)))
  have NgCS : ¬ (gCS = (0 : Int32)) := gotF (own_eqS eCS) (not_v (Cond.before_iff.mp (hsets _ (List.mem_of_getElem? (i := 2) rfl))))
  have hCH : CHv s consts_1 s.vm s.heap := CHv.start (own_EL hw) (show ∀ p ∈ consts_1, Jvm.Lit.constHeld s p.1 p.2 from hcalls.1) (show Jvm.Lit.compactW.before _ s = true from (hsets _ (List.mem_of_getElem? (i := 2) rfl))) (w15 hw) (w2 hw)
  obtain ⟨n, o, h1, h2, h3, _, L, rfl, ⟨N, -, rfl⟩, -, hq⟩ := rm_law l s _ hw gCS i0 i1 i2 i3 s.heap (Old.start s) SgCS NgCS p e ha hc hk s m _ below hf ((Spec.applies_iff_loose hf).mp happ).1 ⟨rfl, State.Warmed39.refl s, rfl, hCH⟩ trivial
  refine ⟨n, _, h1, h2, h3, hpost _ _ _ _ _ _ ⟨Cond.after_iff.mpr rfl, Cond.after_iff.mpr (eq_i res_at (Term.int_eval (1)) rfl), trivial⟩ ⟨hq.1, hq.2.1, hq.2.2.1, (hq.2.2.2.sift fun y hy => Or.inr (N y hy)).mono (by decide) (by decide)⟩⟩
theorem main_1_1 : Claimed_1_1 := comes_1 fun _ _ _ _ _ _ h hF => ⟨h.1, hF⟩
theorem main_1_2 : Claimed_1_2 := comes_1 fun _ _ _ _ _ _ h hF => ⟨h.2.1, hF⟩
end Jvm.Pilot.@@N@@
namespace Jvm.Pilot.@@N@@
open Jvm Jvm.ClassFile Sem Op Lib Jvm.Free Jvm.Stand Jvm.Pilot.@@N@@.Jvm.D
/-! MADE BY PROGRAM (witnessworld.py) out of the Statement's table words and the real class files: 27 classes; the members and pool entries that the words name. The judged class is class 1, her method 1. -/
namespace start1
open Jvm.ClassFile
def u (s : String) : CpInfo := .utf8 (stringToUtf16 s)
/-- a pool by its gaps: so many unusable entries, then the entry; so many at the end -/
def gap : Nat → List CpInfo → List CpInfo
  | 0, r => r
  | n + 1, r => .unusable :: gap n r
def poolList (es : List (Nat × CpInfo)) (last : Nat) : List CpInfo := es.foldr (fun e r => gap e.1 (e.2 :: r)) (gap last [])
def pool (es : List (Nat × CpInfo)) (last : Nat) : Array CpInfo := ⟨poolList es last⟩
def fileOf (pool : Array CpInfo) (this : Nat) (attrs : Array Attribute := #[]) (ms : Array MethodInfo := #[]) (fl : Nat := 33) (sup : Nat := 0) (ifs : Array Nat := #[]) (fds : Array FieldInfo := #[]) : ClassFile where
  minorVersion := 0
  majorVersion := 65
  constantPool := pool
  accessFlags := fl
  thisClass := this
  superClass := sup
  interfaces := ifs
  fields := fds
  methods := ms
  attributes := attrs
def plain (name : String) (sup : Option ClassId) : Class where
  name := name
  kind := .ordinary
  loader := none
  accessFlags := 33
  super := sup
  interfaces := #[]
  cf := none
  fields := #[]
  methods := #[]
  instanceTypes := #[]
  staticTypes := #[]
  resolved := #[]
  callSites := []
  init := .initialized
  statics := none
  mirror := none

def pool0 : Array CpInfo := pool [(5, u "<init>"), (0, u "()V"), (1, .class_ 10), (1, u "java/lang/Object")] 113

def k0c0 : Code := { maxStack := 0, maxLocals := 1, code := object_method_1_code, exceptionTable := #[], attributes := #[] }
def k0m0 : Method := { name := "<init>", desc := "()V", sig := { parameters := [], returnType := none }, accessFlags := 1, code := some k0c0 }
/-- java/lang/Object -/
def k0 : Class := { plain "java/lang/Object" none with
  accessFlags := 33
  interfaces := #[]
  cf := some (fileOf pool0 8 #[] #[{ accessFlags := 1, nameIndex := 5, descriptorIndex := 6, attributes := #[] }] 33 0 #[] #[])
  fields := #[]
  methods := #[k0m0]
  instanceTypes := #[]
  staticTypes := #[]
  resolved := Array.replicate 124 none
  statics := none }

def pool1 : Array CpInfo := pool [(2, .class_ 4), (1, u "java/lang/Object"), (0, u "<init>"), (0, u "()V"), (0, .class_ 8), (0, u "java/lang/String"), (0, .methodref 7 10), (0, .nameAndType 5 11), (0, u "([C)V"), (0, .methodref 13 14), (0, .class_ 15), (0, .nameAndType 16 17), (0, u "com/example/countersign/countersign/Verdict"), (0, u "invalid"), (0, u "(Ljava/lang/String;)Lcom/example/countersign/countersign/Verdict;"), (0, .methodref 13 19), (0, .nameAndType 20 21), (0, u "isValid"), (0, u "()Z"), (0, .methodref 13 23), (0, .nameAndType 24 25), (0, u "toString"), (0, u "()Ljava/lang/String;"), (0, .methodref 7 27), (0, .nameAndType 28 29), (0, u "equals"), (0, u "(Ljava/lang/Object;)Z"), (0, .class_ 31), (0, u "com/example/countersign/countersign/VerdictInvalidPinLaw"), (2, u "law"), (0, u "(IIII)Z")] 5

def k1m0 : Method := { name := "<init>", desc := "()V", sig := { parameters := [], returnType := none }, accessFlags := 1, code := none }
def k1c1 : Code := { maxStack := 4, maxLocals := 20, code := code, exceptionTable := #[], attributes := #[] }
def k1m1 : Method := { name := "law", desc := "(IIII)Z", sig := { parameters := [.int, .int, .int, .int], returnType := some .boolean }, accessFlags := 9, code := some k1c1 }
/-- com/example/countersign/countersign/VerdictInvalidPinLaw -/
def k1 : Class := { plain "com/example/countersign/countersign/VerdictInvalidPinLaw" (some 0) with
  accessFlags := 49
  interfaces := #[]
  cf := some (fileOf pool1 30 #[] #[{ accessFlags := 1, nameIndex := 5, descriptorIndex := 6, attributes := #[] }, { accessFlags := 9, nameIndex := 34, descriptorIndex := 35, attributes := #[] }] 49 2 #[] #[])
  fields := #[]
  methods := #[k1m0, k1m1]
  instanceTypes := #[]
  staticTypes := #[]
  resolved := Array.replicate 41 none
  statics := none }

def pool2 : Array CpInfo := pool [(1, .class_ 2), (0, u "java/io/Serializable"), (0, .class_ 4), (0, u "java/lang/Object")] 2

/-- java/io/Serializable -/
def k2 : Class := { plain "java/io/Serializable" (some 0) with
  accessFlags := 1537
  interfaces := #[]
  cf := some (fileOf pool2 1 #[] #[] 1537 3 #[] #[])
  fields := #[]
  methods := #[]
  instanceTypes := #[]
  staticTypes := #[]
  resolved := Array.replicate 7 none
  statics := none }

def pool3 : Array CpInfo := pool [(1, .class_ 2), (0, u "java/lang/Comparable"), (0, .class_ 4), (0, u "java/lang/Object")] 7

/-- java/lang/Comparable -/
def k3 : Class := { plain "java/lang/Comparable" (some 0) with
  accessFlags := 1537
  interfaces := #[]
  cf := some (fileOf pool3 1 #[] #[] 1537 3 #[] #[])
  fields := #[]
  methods := #[]
  instanceTypes := #[]
  staticTypes := #[]
  resolved := Array.replicate 12 none
  statics := none }

def pool4 : Array CpInfo := pool [(2, .class_ 4), (1, u "java/lang/CharSequence"), (42, .class_ 48), (0, u "java/lang/CharSequence$1CodePointIterator"), (10, .class_ 60), (0, u "java/lang/CharSequence$1CharIterator"), (5, .class_ 67), (0, u "java/lang/Object")] 63

/-- java/lang/CharSequence -/
def k4 : Class := { plain "java/lang/CharSequence" (some 0) with
  accessFlags := 1537
  interfaces := #[]
  cf := some (fileOf pool4 2 #[.nestMembers #[47, 59]] #[] 1537 66 #[] #[])
  fields := #[]
  methods := #[]
  instanceTypes := #[]
  staticTypes := #[]
  resolved := Array.replicate 131 none
  statics := none }

def pool5 : Array CpInfo := pool [(1, .class_ 2), (0, u "java/lang/constant/Constable"), (0, .class_ 4), (0, u "java/lang/Object")] 6

/-- java/lang/constant/Constable -/
def k5 : Class := { plain "java/lang/constant/Constable" (some 0) with
  accessFlags := 1537
  interfaces := #[]
  cf := some (fileOf pool5 1 #[] #[] 1537 3 #[] #[])
  fields := #[]
  methods := #[]
  instanceTypes := #[]
  staticTypes := #[]
  resolved := Array.replicate 11 none
  statics := none }

def pool6 : Array CpInfo := pool [(1, .class_ 2), (0, u "java/lang/constant/ConstantDesc"), (0, .class_ 4), (0, u "java/lang/Object")] 32

/-- java/lang/constant/ConstantDesc -/
def k6 : Class := { plain "java/lang/constant/ConstantDesc" (some 0) with
  accessFlags := 1537
  interfaces := #[]
  cf := some (fileOf pool6 1 #[] #[] 1537 3 #[] #[])
  fields := #[]
  methods := #[]
  instanceTypes := #[]
  staticTypes := #[]
  resolved := Array.replicate 37 none
  statics := none }

def pool7 : Array CpInfo := pool [(1, .methodref 2 3), (0, .class_ 4), (0, .nameAndType 5 6), (0, u "java/lang/Object"), (0, u "<init>"), (0, u "()V"), (0, .string 8), (0, u ""), (0, .fieldref 10 11), (0, .class_ 12), (0, .nameAndType 13 14), (0, u "java/lang/String"), (0, u "value"), (0, u "[B"), (0, .fieldref 10 16), (0, .nameAndType 17 18), (0, u "coder"), (0, u "B"), (2, u "hash"), (0, u "I"), (2, u "hashIsZero"), (0, u "Z"), (0, .methodref 10 28), (0, .nameAndType 5 29), (0, u "([CIILjava/lang/Void;)V"), (8, .fieldref 10 39), (0, .nameAndType 40 26), (0, u "COMPACT_STRINGS"), (1, .class_ 44), (1, u "java/lang/StringUTF16"), (0, u "compress"), (1, .methodref 42 48), (0, .nameAndType 49 50), (0, u "coderFromArrayLen"), (0, u "([BI)B"), (3, .methodref 55 56), (0, .class_ 57), (0, .nameAndType 58 59), (0, u "java/util/Arrays"), (0, u "copyOfRange"), (0, u "([BII)[B"), (47, .class_ 109), (1, u "java/lang/StringLatin1"), (32, u "()Z"), (34, .methodref 42 178), (0, .nameAndType 45 179), (0, u "([CII)[B"), (13, .class_ 195), (1, u "java/lang/System"), (16, .methodref 193 213), (0, .nameAndType 214 215), (0, u "arraycopy"), (0, u "(Ljava/lang/Object;ILjava/lang/Object;II)V"), (118, u "()I"), (0, .methodref 10 336), (0, .nameAndType 17 337), (0, u "()B"), (2, u "()[B"), (148, .methodref 10 490), (0, .nameAndType 5 491), (0, u "(Ljava/lang/AbstractStringBuilder;Ljava/lang/Void;)V"), (1, .nameAndType 494 142), (0, u "isLatin1"), (11, .nameAndType 507 334), (0, u "length"), (24, u "getBytes"), (8, .methodref 107 542), (0, .nameAndType 543 544), (0, u "equals"), (0, u "([B[B)Z"), (4, .methodref 550 506), (0, .class_ 551), (0, u "java/lang/AbstractStringBuilder"), (0, .methodref 550 553), (0, .nameAndType 554 340), (0, u "getValue"), (18, u "(Ljava/lang/Object;)Z"), (1, .class_ 576), (0, u "java/lang/CharSequence"), (22, u "CASE_INSENSITIVE_ORDER"), (0, u "Ljava/util/Comparator;"), (220, u "([BIB)V"), (188, u "([C)V"), (36, .methodref 550 493), (53, u "serialPersistentFields"), (0, u "[Ljava/io/ObjectStreamField;"), (0, .class_ 1104), (0, u "java/lang/String$CaseInsensitiveComparator"), (1, .class_ 1107), (0, u "java/io/Serializable"), (0, .class_ 1109), (0, u "java/lang/Comparable"), (0, .class_ 1111), (0, u "java/lang/constant/Constable"), (0, .class_ 1113), (0, u "java/lang/constant/ConstantDesc"), (2, u "serialVersionUID"), (0, u "J"), (3, u "REPL"), (0, u "C"), (2, u "LATIN1"), (1, u "UTF16"), (105, u "(Ljava/lang/StringBuilder;)V")] 217

def k7m0 : Method := { name := "<init>", desc := "()V", sig := { parameters := [], returnType := none }, accessFlags := 1, code := none }
def k7c1 : Code := { maxStack := 5, maxLocals := 2, code := jdk_42_method_3_code, exceptionTable := #[], attributes := #[] }
def k7m1 : Method := { name := "<init>", desc := "([C)V", sig := { parameters := [(.array .char)], returnType := none }, accessFlags := 1, code := some k7c1 }
def k7c2 : Code := { maxStack := 3, maxLocals := 2, code := jdk_42_method_53_code, exceptionTable := #[], attributes := #[] }
def k7m2 : Method := { name := "<init>", desc := "(Ljava/lang/StringBuilder;)V", sig := { parameters := [(.object "java/lang/StringBuilder")], returnType := none }, accessFlags := 1, code := some k7c2 }
def k7c3 : Code := { maxStack := 2, maxLocals := 1, code := jdk_42_method_54_code, exceptionTable := #[], attributes := #[] }
def k7m3 : Method := { name := "length", desc := "()I", sig := { parameters := [], returnType := some .int }, accessFlags := 1, code := some k7c3 }
def k7c4 : Code := { maxStack := 2, maxLocals := 3, code := jdk_42_method_66_code, exceptionTable := #[], attributes := #[] }
def k7m4 : Method := { name := "equals", desc := "(Ljava/lang/Object;)Z", sig := { parameters := [(.object "java/lang/Object")], returnType := some .boolean }, accessFlags := 1, code := some k7c4 }
def k7c5 : Code := { maxStack := 5, maxLocals := 4, code := jdk_42_method_147_code, exceptionTable := #[], attributes := #[] }
def k7m5 : Method := { name := "getBytes", desc := "([BIB)V", sig := { parameters := [(.array .byte), .int, .byte], returnType := none }, accessFlags := 0, code := some k7c5 }
def k7c6 : Code := { maxStack := 4, maxLocals := 6, code := jdk_42_method_149_code, exceptionTable := #[], attributes := #[] }
def k7m6 : Method := { name := "<init>", desc := "([CIILjava/lang/Void;)V", sig := { parameters := [(.array .char), .int, .int, (.object "java/lang/Void")], returnType := none }, accessFlags := 2, code := some k7c6 }
def k7c7 : Code := { maxStack := 5, maxLocals := 5, code := jdk_42_method_150_code, exceptionTable := #[], attributes := #[] }
def k7m7 : Method := { name := "<init>", desc := "(Ljava/lang/AbstractStringBuilder;Ljava/lang/Void;)V", sig := { parameters := [(.object "java/lang/AbstractStringBuilder"), (.object "java/lang/Void")], returnType := none }, accessFlags := 0, code := some k7c7 }
def k7c8 : Code := { maxStack := 1, maxLocals := 1, code := jdk_42_method_152_code, exceptionTable := #[], attributes := #[] }
def k7m8 : Method := { name := "coder", desc := "()B", sig := { parameters := [], returnType := some .byte }, accessFlags := 0, code := some k7c8 }
/-- java/lang/String -/
def k7 : Class := { plain "java/lang/String" (some 0) with
  accessFlags := 49
  interfaces := #[2, 3, 4, 5, 6]
  cf := some (fileOf pool7 10 #[.nestMembers #[1103]] #[{ accessFlags := 1, nameIndex := 5, descriptorIndex := 6, attributes := #[] }, { accessFlags := 1, nameIndex := 5, descriptorIndex := 1010, attributes := #[] }, { accessFlags := 1, nameIndex := 5, descriptorIndex := 1233, attributes := #[] }, { accessFlags := 1, nameIndex := 507, descriptorIndex := 334, attributes := #[] }, { accessFlags := 1, nameIndex := 543, descriptorIndex := 573, attributes := #[] }, { accessFlags := 0, nameIndex := 532, descriptorIndex := 821, attributes := #[] }, { accessFlags := 2, nameIndex := 5, descriptorIndex := 29, attributes := #[] }, { accessFlags := 0, nameIndex := 5, descriptorIndex := 491, attributes := #[] }, { accessFlags := 0, nameIndex := 17, descriptorIndex := 337, attributes := #[] }] 49 2 #[1106, 1108, 575, 1110, 1112] #[{ accessFlags := 18, nameIndex := 13, descriptorIndex := 14, attributes := #[] }, { accessFlags := 18, nameIndex := 17, descriptorIndex := 18, attributes := #[] }, { accessFlags := 2, nameIndex := 21, descriptorIndex := 22, attributes := #[] }, { accessFlags := 2, nameIndex := 25, descriptorIndex := 26, attributes := #[] }, { accessFlags := 26, nameIndex := 1116, descriptorIndex := 1117, attributes := #[] }, { accessFlags := 24, nameIndex := 40, descriptorIndex := 26, attributes := #[] }, { accessFlags := 26, nameIndex := 1101, descriptorIndex := 1102, attributes := #[] }, { accessFlags := 26, nameIndex := 1121, descriptorIndex := 1122, attributes := #[] }, { accessFlags := 25, nameIndex := 599, descriptorIndex := 600, attributes := #[] }, { accessFlags := 24, nameIndex := 1125, descriptorIndex := 18, attributes := #[] }, { accessFlags := 24, nameIndex := 1127, descriptorIndex := 18, attributes := #[] }])
  fields := #[{ name := "value", type := (.array .byte), accessFlags := 18, slot := 0, constantValue := 0 }, { name := "coder", type := .byte, accessFlags := 18, slot := 1, constantValue := 0 }, { name := "hash", type := .int, accessFlags := 2, slot := 2, constantValue := 0 }, { name := "hashIsZero", type := .boolean, accessFlags := 2, slot := 3, constantValue := 0 }, { name := "serialVersionUID", type := .long, accessFlags := 26, slot := 0, constantValue := 0 }, { name := "COMPACT_STRINGS", type := .boolean, accessFlags := 24, slot := 1, constantValue := 0 }, { name := "serialPersistentFields", type := (.array (.object "java/io/ObjectStreamField")), accessFlags := 26, slot := 2, constantValue := 0 }, { name := "REPL", type := .char, accessFlags := 26, slot := 3, constantValue := 0 }, { name := "CASE_INSENSITIVE_ORDER", type := (.object "java/util/Comparator"), accessFlags := 25, slot := 4, constantValue := 0 }, { name := "LATIN1", type := .byte, accessFlags := 24, slot := 5, constantValue := 0 }, { name := "UTF16", type := .byte, accessFlags := 24, slot := 6, constantValue := 0 }]
  methods := #[k7m0, k7m1, k7m2, k7m3, k7m4, k7m5, k7m6, k7m7, k7m8]
  instanceTypes := #[(.array .byte), .byte, .int, .boolean]
  staticTypes := #[.long, .boolean, (.array (.object "java/io/ObjectStreamField")), .char, (.object "java/util/Comparator"), .byte, .byte]
  resolved := Array.replicate 1451 none
  statics := some 0 }

def pool8 : Array CpInfo := pool [(6, .class_ 8), (1, u "java/lang/Object"), (0, u "<init>"), (0, u "()V"), (1, .class_ 14), (1, u "java/lang/StringUTF16"), (31, u "$assertionsDisabled"), (0, u "Z"), (13, u "HI_BYTE_SHIFT"), (0, u "I"), (2, u "LO_BYTE_SHIFT"), (49, .methodref 12 116), (0, .nameAndType 117 118), (0, u "compress"), (0, u "([CI[BII)I"), (3, u "([CII)[B"), (138, u "coderFromArrayLen"), (0, u "([BI)B"), (106, .class_ 371), (1, u "java/lang/StringUTF16$LinesSpliterator"), (58, u "MAX_LENGTH"), (196, .class_ 628), (0, u "java/lang/StringUTF16$CodePointsSpliterator"), (0, .class_ 630), (0, u "java/lang/StringUTF16$CharsSpliterator")] 4

def k8m0 : Method := { name := "<init>", desc := "()V", sig := { parameters := [], returnType := none }, accessFlags := 0, code := none }
def k8c1 : Code := { maxStack := 2, maxLocals := 2, code := jdk_52_method_15_code, exceptionTable := #[], attributes := #[] }
def k8m1 : Method := { name := "coderFromArrayLen", desc := "([BI)B", sig := { parameters := [(.array .byte), .int], returnType := some .byte }, accessFlags := 8, code := some k8c1 }
def k8c2 : Code := { maxStack := 5, maxLocals := 6, code := jdk_52_method_16_code, exceptionTable := #[], attributes := #[] }
def k8m2 : Method := { name := "compress", desc := "([CII)[B", sig := { parameters := [(.array .char), .int, .int], returnType := some (.array .byte) }, accessFlags := 9, code := some k8c2 }
def k8c3 : Code := { maxStack := 3, maxLocals := 7, code := jdk_52_method_21_code, exceptionTable := #[], attributes := #[] }
def k8m3 : Method := { name := "compress", desc := "([CI[BII)I", sig := { parameters := [(.array .char), .int, (.array .byte), .int, .int], returnType := some .int }, accessFlags := 9, code := some k8c3 }
/-- java/lang/StringUTF16 -/
def k8 : Class := { plain "java/lang/StringUTF16" (some 0) with
  accessFlags := 48
  interfaces := #[]
  cf := some (fileOf pool8 12 #[.nestMembers #[627, 629, 369]] #[{ accessFlags := 0, nameIndex := 9, descriptorIndex := 10, attributes := #[] }, { accessFlags := 8, nameIndex := 261, descriptorIndex := 262, attributes := #[] }, { accessFlags := 9, nameIndex := 117, descriptorIndex := 122, attributes := #[] }, { accessFlags := 9, nameIndex := 117, descriptorIndex := 118, attributes := #[] }] 48 6 #[] #[{ accessFlags := 26, nameIndex := 61, descriptorIndex := 62, attributes := #[] }, { accessFlags := 26, nameIndex := 65, descriptorIndex := 62, attributes := #[] }, { accessFlags := 24, nameIndex := 430, descriptorIndex := 62, attributes := #[] }, { accessFlags := 4120, nameIndex := 46, descriptorIndex := 47, attributes := #[] }])
  fields := #[{ name := "HI_BYTE_SHIFT", type := .int, accessFlags := 26, slot := 0, constantValue := 0 }, { name := "LO_BYTE_SHIFT", type := .int, accessFlags := 26, slot := 1, constantValue := 0 }, { name := "MAX_LENGTH", type := .int, accessFlags := 24, slot := 2, constantValue := 0 }, { name := "$assertionsDisabled", type := .boolean, accessFlags := 4120, slot := 3, constantValue := 0 }]
  methods := #[k8m0, k8m1, k8m2, k8m3]
  instanceTypes := #[]
  staticTypes := #[.int, .int, .int, .boolean]
  resolved := Array.replicate 635 none
  statics := none }

def pool9 : Array CpInfo := pool [(1, .methodref 2 3), (0, .class_ 4), (0, .nameAndType 5 6), (0, u "java/lang/Object"), (0, u "<init>"), (0, u "()V"), (0, .fieldref 8 9), (0, .class_ 10), (0, .nameAndType 11 12), (0, u "com/example/countersign/countersign/Verdict"), (0, u "reason"), (0, u "Ljava/lang/String;"), (2, u "VALID"), (0, u "Lcom/example/countersign/countersign/Verdict;"), (0, .string 11), (0, .methodref 19 20), (0, .class_ 21), (0, .nameAndType 22 23), (0, u "java/util/Objects"), (0, u "requireNonNull"), (0, u "(Ljava/lang/Object;Ljava/lang/String;)Ljava/lang/Object;"), (0, .class_ 25), (0, u "java/lang/String"), (0, .methodref 8 27), (0, .nameAndType 5 28), (0, u "(Ljava/lang/String;)V"), (8, .class_ 38), (0, u "java/lang/StringBuilder"), (0, .methodref 37 3), (0, .string 41), (0, u "invalid: "), (0, .methodref 37 43), (0, .nameAndType 44 45), (0, u "append"), (0, u "(Ljava/lang/String;)Ljava/lang/StringBuilder;"), (0, .methodref 37 47), (0, .nameAndType 48 49), (0, u "toString"), (0, u "()Ljava/lang/String;"), (3, u "invalid"), (0, u "(Ljava/lang/String;)Lcom/example/countersign/countersign/Verdict;"), (0, u "isValid"), (0, u "()Z")] 7

def k9c0 : Code := { maxStack := 2, maxLocals := 2, code := prog_11_method_1_code, exceptionTable := #[], attributes := #[] }
def k9m0 : Method := { name := "<init>", desc := "(Ljava/lang/String;)V", sig := { parameters := [(.object "java/lang/String")], returnType := none }, accessFlags := 2, code := some k9c0 }
def k9c1 : Code := { maxStack := 4, maxLocals := 1, code := prog_11_method_3_code, exceptionTable := #[], attributes := #[] }
def k9m1 : Method := { name := "invalid", desc := "(Ljava/lang/String;)Lcom/example/countersign/countersign/Verdict;", sig := { parameters := [(.object "java/lang/String")], returnType := some (.object "com/example/countersign/countersign/Verdict") }, accessFlags := 8, code := some k9c1 }
def k9c2 : Code := { maxStack := 1, maxLocals := 1, code := prog_11_method_4_code, exceptionTable := #[], attributes := #[] }
def k9m2 : Method := { name := "isValid", desc := "()Z", sig := { parameters := [], returnType := some .boolean }, accessFlags := 1, code := some k9c2 }
def k9c3 : Code := { maxStack := 2, maxLocals := 1, code := prog_11_method_6_code, exceptionTable := #[], attributes := #[] }
def k9m3 : Method := { name := "toString", desc := "()Ljava/lang/String;", sig := { parameters := [], returnType := some (.object "java/lang/String") }, accessFlags := 1, code := some k9c3 }
/-- com/example/countersign/countersign/Verdict -/
def k9 : Class := { plain "com/example/countersign/countersign/Verdict" (some 0) with
  accessFlags := 49
  interfaces := #[]
  cf := some (fileOf pool9 8 #[] #[{ accessFlags := 2, nameIndex := 5, descriptorIndex := 28, attributes := #[] }, { accessFlags := 8, nameIndex := 53, descriptorIndex := 54, attributes := #[] }, { accessFlags := 1, nameIndex := 55, descriptorIndex := 56, attributes := #[] }, { accessFlags := 1, nameIndex := 48, descriptorIndex := 49, attributes := #[] }] 49 2 #[] #[{ accessFlags := 26, nameIndex := 15, descriptorIndex := 16, attributes := #[] }, { accessFlags := 18, nameIndex := 11, descriptorIndex := 12, attributes := #[] }])
  fields := #[{ name := "VALID", type := (.object "com/example/countersign/countersign/Verdict"), accessFlags := 26, slot := 0, constantValue := 0 }, { name := "reason", type := (.object "java/lang/String"), accessFlags := 18, slot := 0, constantValue := 0 }]
  methods := #[k9m0, k9m1, k9m2, k9m3]
  instanceTypes := #[(.object "java/lang/String")]
  staticTypes := #[(.object "com/example/countersign/countersign/Verdict")]
  resolved := Array.replicate 64 none
  statics := none }

def pool10 : Array CpInfo := pool [(2, .class_ 4), (1, u "java/lang/Object"), (0, u "<init>"), (0, u "()V"), (35, .class_ 44), (1, u "java/util/Objects"), (0, u "requireNonNull"), (48, u "(Ljava/lang/Object;Ljava/lang/String;)Ljava/lang/Object;")] 89

def k10m0 : Method := { name := "<init>", desc := "()V", sig := { parameters := [], returnType := none }, accessFlags := 2, code := none }
def k10c1 : Code := { maxStack := 3, maxLocals := 2, code := jdk_31_method_11_code, exceptionTable := #[], attributes := #[] }
def k10m1 : Method := { name := "requireNonNull", desc := "(Ljava/lang/Object;Ljava/lang/String;)Ljava/lang/Object;", sig := { parameters := [(.object "java/lang/Object"), (.object "java/lang/String")], returnType := some (.object "java/lang/Object") }, accessFlags := 9, code := some k10c1 }
/-- java/util/Objects -/
def k10 : Class := { plain "java/util/Objects" (some 0) with
  accessFlags := 49
  interfaces := #[]
  cf := some (fileOf pool10 42 #[] #[{ accessFlags := 2, nameIndex := 5, descriptorIndex := 6, attributes := #[] }, { accessFlags := 9, nameIndex := 45, descriptorIndex := 94, attributes := #[] }] 49 2 #[] #[])
  fields := #[]
  methods := #[k10m0, k10m1]
  instanceTypes := #[]
  staticTypes := #[]
  resolved := Array.replicate 184 none
  statics := none }

def pool11 : Array CpInfo := pool [(1, .class_ 2), (0, u "java/lang/Appendable"), (0, .class_ 4), (0, u "java/lang/Object")] 9

/-- java/lang/Appendable -/
def k11 : Class := { plain "java/lang/Appendable" (some 0) with
  accessFlags := 1537
  interfaces := #[]
  cf := some (fileOf pool11 1 #[] #[] 1537 3 #[] #[])
  fields := #[]
  methods := #[]
  instanceTypes := #[]
  staticTypes := #[]
  resolved := Array.replicate 14 none
  statics := none }

def pool12 : Array CpInfo := pool [(1, .class_ 2), (0, u "java/lang/String"), (0, .methodref 4 5), (0, .class_ 6), (0, .nameAndType 7 8), (0, u "java/lang/Object"), (0, u "<init>"), (0, u "()V"), (1, .class_ 12), (1, u "java/lang/AbstractStringBuilder"), (0, u "EMPTYVALUE"), (0, u "[B"), (0, .fieldref 10 16), (0, .nameAndType 17 14), (0, u "value"), (0, .fieldref 1 19), (0, .nameAndType 20 21), (0, u "COMPACT_STRINGS"), (0, u "Z"), (0, .fieldref 10 23), (0, .nameAndType 24 25), (0, u "coder"), (0, u "B"), (6, .methodref 1 33), (0, .nameAndType 34 35), (0, u "length"), (0, u "()I"), (4, .methodref 1 41), (0, .nameAndType 24 42), (0, u "()B"), (2, u "append"), (0, u "(Ljava/lang/String;)Ljava/lang/AbstractStringBuilder;"), (1, .class_ 49), (0, u "java/lang/CharSequence"), (19, u "(Ljava/lang/String;)V"), (5, u "maybeLatin1"), (3, .fieldref 10 80), (0, .nameAndType 81 82), (0, u "count"), (0, u "I"), (2, u "isLatin1"), (0, u "()Z"), (13, .methodref 10 101), (0, .nameAndType 102 103), (0, u "ensureCapacityInternal"), (0, u "(I)V"), (104, .methodref 10 209), (0, .nameAndType 210 211), (0, u "putStringAt"), (0, u "(ILjava/lang/String;)V"), (5, u "inflateIfNeededFor"), (2, .nameAndType 221 222), (0, u "getBytes"), (0, u "([BIB)V"), (174, .methodref 10 398), (0, .nameAndType 217 69), (0, .methodref 1 220), (3, u "()[B"), (40, .class_ 445), (0, u "java/lang/Appendable"), (106, u "getValue")] 56

def k12m0 : Method := { name := "<init>", desc := "()V", sig := { parameters := [], returnType := none }, accessFlags := 0, code := none }
def k12c1 : Code := { maxStack := 2, maxLocals := 2, code := jdk_68_method_2_code, exceptionTable := #[], attributes := #[] }
def k12m1 : Method := { name := "<init>", desc := "(I)V", sig := { parameters := [.int], returnType := none }, accessFlags := 0, code := some k12c1 }
def k12c2 : Code := { maxStack := 1, maxLocals := 1, code := jdk_68_method_6_code, exceptionTable := #[], attributes := #[] }
def k12m2 : Method := { name := "length", desc := "()I", sig := { parameters := [], returnType := some .int }, accessFlags := 1, code := some k12c2 }
def k12c3 : Code := { maxStack := 4, maxLocals := 3, code := jdk_68_method_9_code, exceptionTable := #[], attributes := #[] }
def k12m3 : Method := { name := "ensureCapacityInternal", desc := "(I)V", sig := { parameters := [.int], returnType := none }, accessFlags := 2, code := some k12c3 }
def k12c4 : Code := { maxStack := 3, maxLocals := 3, code := jdk_68_method_22_code, exceptionTable := #[], attributes := #[] }
def k12m4 : Method := { name := "append", desc := "(Ljava/lang/String;)Ljava/lang/AbstractStringBuilder;", sig := { parameters := [(.object "java/lang/String")], returnType := some (.object "java/lang/AbstractStringBuilder") }, accessFlags := 1, code := some k12c4 }
def k12c5 : Code := { maxStack := 1, maxLocals := 1, code := jdk_68_method_64_code, exceptionTable := #[], attributes := #[] }
def k12m5 : Method := { name := "getValue", desc := "()[B", sig := { parameters := [], returnType := some (.array .byte) }, accessFlags := 16, code := some k12c5 }
def k12c6 : Code := { maxStack := 1, maxLocals := 1, code := jdk_68_method_68_code, exceptionTable := #[], attributes := #[] }
def k12m6 : Method := { name := "isLatin1", desc := "()Z", sig := { parameters := [], returnType := some .boolean }, accessFlags := 16, code := some k12c6 }
def k12c7 : Code := { maxStack := 2, maxLocals := 2, code := jdk_68_method_71_code, exceptionTable := #[], attributes := #[] }
def k12m7 : Method := { name := "inflateIfNeededFor", desc := "(Ljava/lang/String;)V", sig := { parameters := [(.object "java/lang/String")], returnType := none }, accessFlags := 2, code := some k12c7 }
def k12c8 : Code := { maxStack := 4, maxLocals := 3, code := jdk_68_method_73_code, exceptionTable := #[], attributes := #[] }
def k12m8 : Method := { name := "putStringAt", desc := "(ILjava/lang/String;)V", sig := { parameters := [.int, (.object "java/lang/String")], returnType := none }, accessFlags := 2, code := some k12c8 }
/-- java/lang/AbstractStringBuilder -/
def k12 : Class := { plain "java/lang/AbstractStringBuilder" (some 0) with
  accessFlags := 1056
  interfaces := #[11, 4]
  cf := some (fileOf pool12 10 #[] #[{ accessFlags := 0, nameIndex := 7, descriptorIndex := 8, attributes := #[] }, { accessFlags := 0, nameIndex := 7, descriptorIndex := 103, attributes := #[] }, { accessFlags := 1, nameIndex := 34, descriptorIndex := 35, attributes := #[] }, { accessFlags := 2, nameIndex := 102, descriptorIndex := 103, attributes := #[] }, { accessFlags := 1, nameIndex := 45, descriptorIndex := 46, attributes := #[] }, { accessFlags := 16, nameIndex := 552, descriptorIndex := 403, attributes := #[] }, { accessFlags := 16, nameIndex := 85, descriptorIndex := 86, attributes := #[] }, { accessFlags := 2, nameIndex := 217, descriptorIndex := 69, attributes := #[] }, { accessFlags := 2, nameIndex := 210, descriptorIndex := 211, attributes := #[] }] 1056 4 #[444, 48] #[{ accessFlags := 0, nameIndex := 17, descriptorIndex := 14, attributes := #[] }, { accessFlags := 0, nameIndex := 24, descriptorIndex := 25, attributes := #[] }, { accessFlags := 0, nameIndex := 75, descriptorIndex := 21, attributes := #[] }, { accessFlags := 0, nameIndex := 81, descriptorIndex := 82, attributes := #[] }, { accessFlags := 26, nameIndex := 13, descriptorIndex := 14, attributes := #[] }])
  fields := #[{ name := "value", type := (.array .byte), accessFlags := 0, slot := 0, constantValue := 0 }, { name := "coder", type := .byte, accessFlags := 0, slot := 1, constantValue := 0 }, { name := "maybeLatin1", type := .boolean, accessFlags := 0, slot := 2, constantValue := 0 }, { name := "count", type := .int, accessFlags := 0, slot := 3, constantValue := 0 }, { name := "EMPTYVALUE", type := (.array .byte), accessFlags := 26, slot := 0, constantValue := 0 }]
  methods := #[k12m0, k12m1, k12m2, k12m3, k12m4, k12m5, k12m6, k12m7, k12m8]
  instanceTypes := #[(.array .byte), .byte, .boolean, .int]
  staticTypes := #[(.array .byte)]
  resolved := Array.replicate 609 none
  statics := none }

def pool13 : Array CpInfo := pool [(1, .methodref 2 3), (0, .class_ 4), (0, .nameAndType 5 6), (0, u "java/lang/AbstractStringBuilder"), (0, u "<init>"), (0, u "(I)V"), (11, .class_ 20), (1, u "java/lang/String"), (3, .class_ 26), (1, u "java/lang/StringBuilder"), (0, u "append"), (0, u "(Ljava/lang/String;)Ljava/lang/StringBuilder;"), (0, .methodref 2 30), (0, .nameAndType 27 31), (0, u "(Ljava/lang/String;)Ljava/lang/AbstractStringBuilder;"), (105, .methodref 18 138), (0, .nameAndType 5 139), (0, u "(Ljava/lang/StringBuilder;)V"), (5, u "()V"), (10, u "()I"), (186, .methodref 2 344), (0, .nameAndType 345 156), (0, u "length"), (3, .class_ 350), (0, u "java/lang/Appendable"), (0, .class_ 352), (0, u "java/io/Serializable"), (0, .class_ 354), (0, u "java/lang/Comparable"), (0, .class_ 356), (0, u "java/lang/CharSequence"), (0, u "serialVersionUID"), (0, u "J"), (40, u "toString"), (0, u "()Ljava/lang/String;")] 21

def k13c0 : Code := { maxStack := 2, maxLocals := 1, code := jdk_67_method_1_code, exceptionTable := #[], attributes := #[] }
def k13m0 : Method := { name := "<init>", desc := "()V", sig := { parameters := [], returnType := none }, accessFlags := 1, code := some k13c0 }
def k13c1 : Code := { maxStack := 2, maxLocals := 2, code := jdk_67_method_7_code, exceptionTable := #[], attributes := #[] }
def k13m1 : Method := { name := "append", desc := "(Ljava/lang/String;)Ljava/lang/StringBuilder;", sig := { parameters := [(.object "java/lang/String")], returnType := some (.object "java/lang/StringBuilder") }, accessFlags := 1, code := some k13c1 }
def k13c2 : Code := { maxStack := 3, maxLocals := 1, code := jdk_67_method_42_code, exceptionTable := #[], attributes := #[] }
def k13m2 : Method := { name := "toString", desc := "()Ljava/lang/String;", sig := { parameters := [], returnType := some (.object "java/lang/String") }, accessFlags := 1, code := some k13c2 }
def k13c3 : Code := { maxStack := 1, maxLocals := 1, code := jdk_67_method_93_code, exceptionTable := #[], attributes := #[] }
def k13m3 : Method := { name := "length", desc := "()I", sig := { parameters := [], returnType := some .int }, accessFlags := 4161, code := some k13c3 }
/-- java/lang/StringBuilder -/
def k13 : Class := { plain "java/lang/StringBuilder" (some 12) with
  accessFlags := 49
  interfaces := #[11, 2, 3, 4]
  cf := some (fileOf pool13 24 #[] #[{ accessFlags := 1, nameIndex := 5, descriptorIndex := 145, attributes := #[] }, { accessFlags := 1, nameIndex := 27, descriptorIndex := 28, attributes := #[] }, { accessFlags := 1, nameIndex := 399, descriptorIndex := 400, attributes := #[] }, { accessFlags := 4161, nameIndex := 345, descriptorIndex := 156, attributes := #[] }] 49 2 #[349, 351, 353, 355] #[{ accessFlags := 24, nameIndex := 357, descriptorIndex := 358, attributes := #[] }])
  fields := #[{ name := "serialVersionUID", type := .long, accessFlags := 24, slot := 0, constantValue := 0 }]
  methods := #[k13m0, k13m1, k13m2, k13m3]
  instanceTypes := #[(.array .byte), .byte, .boolean, .int]
  staticTypes := #[.long]
  resolved := Array.replicate 422 none
  statics := none }

def pool14 : Array CpInfo := pool [(2, .class_ 4), (1, u "java/lang/Object"), (0, u "<init>"), (0, u "()V"), (1, .class_ 10), (1, u "java/lang/System"), (0, u "allowSecurityManager"), (0, u "I"), (16, u "cons"), (0, u "Ljava/io/Console;"), (77, .class_ 110), (1, u "java/lang/System$CallersHolder"), (43, u "initialErrStream"), (0, u "Ljava/io/PrintStream;"), (19, u "security"), (0, u "Ljava/lang/SecurityManager;"), (31, .class_ 209), (0, u "java/lang/System$1"), (7, u "props"), (0, u "Ljava/util/Properties;"), (2, u "lineSeparator"), (0, u "Ljava/lang/String;"), (96, .class_ 321), (1, u "java/lang/System$LoggerFinder"), (5, .class_ 328), (0, u "java/lang/System$Logger"), (67, u "err"), (2, u "out"), (91, u "notSupportedJnuEncoding"), (15, u "in"), (17, u "initialIn"), (0, u "Ljava/io/InputStream;"), (35, u "bootLayer"), (0, u "Ljava/lang/ModuleLayer;"), (99, .class_ 664), (0, u "java/lang/System$2"), (9, u "NEVER"), (2, u "MAYBE"), (49, u "arraycopy"), (0, u "(Ljava/lang/Object;ILjava/lang/Object;II)V"), (72, .class_ 802), (0, u "java/lang/System$Logger$Level")] 31

def k14m0 : Method := { name := "<init>", desc := "()V", sig := { parameters := [], returnType := none }, accessFlags := 2, code := none }
def k14m1 : Method := { name := "arraycopy", desc := "(Ljava/lang/Object;ILjava/lang/Object;II)V", sig := { parameters := [(.object "java/lang/Object"), .int, (.object "java/lang/Object"), .int, .int], returnType := none }, accessFlags := 265, code := none }
/-- java/lang/System -/
def k14 : Class := { plain "java/lang/System" (some 0) with
  accessFlags := 49
  interfaces := #[]
  cf := some (fileOf pool14 8 #[.nestMembers #[319, 327, 801, 108, 663, 208]] #[{ accessFlags := 2, nameIndex := 5, descriptorIndex := 6, attributes := #[] }, { accessFlags := 265, nameIndex := 727, descriptorIndex := 728, attributes := #[] }] 49 2 #[] #[{ accessFlags := 25, nameIndex := 507, descriptorIndex := 526, attributes := #[] }, { accessFlags := 25, nameIndex := 399, descriptorIndex := 155, attributes := #[] }, { accessFlags := 25, nameIndex := 396, descriptorIndex := 155, attributes := #[] }, { accessFlags := 10, nameIndex := 525, descriptorIndex := 526, attributes := #[] }, { accessFlags := 26, nameIndex := 674, descriptorIndex := 12, attributes := #[] }, { accessFlags := 26, nameIndex := 677, descriptorIndex := 12, attributes := #[] }, { accessFlags := 10, nameIndex := 11, descriptorIndex := 12, attributes := #[] }, { accessFlags := 74, nameIndex := 175, descriptorIndex := 176, attributes := #[] }, { accessFlags := 10, nameIndex := 491, descriptorIndex := 222, attributes := #[] }, { accessFlags := 74, nameIndex := 29, descriptorIndex := 30, attributes := #[] }, { accessFlags := 74, nameIndex := 154, descriptorIndex := 155, attributes := #[] }, { accessFlags := 10, nameIndex := 217, descriptorIndex := 218, attributes := #[] }, { accessFlags := 10, nameIndex := 221, descriptorIndex := 222, attributes := #[] }, { accessFlags := 8, nameIndex := 562, descriptorIndex := 563, attributes := #[] }])
  fields := #[{ name := "in", type := (.object "java/io/InputStream"), accessFlags := 25, slot := 0, constantValue := 0 }, { name := "out", type := (.object "java/io/PrintStream"), accessFlags := 25, slot := 1, constantValue := 0 }, { name := "err", type := (.object "java/io/PrintStream"), accessFlags := 25, slot := 2, constantValue := 0 }, { name := "initialIn", type := (.object "java/io/InputStream"), accessFlags := 10, slot := 3, constantValue := 0 }, { name := "NEVER", type := .int, accessFlags := 26, slot := 4, constantValue := 0 }, { name := "MAYBE", type := .int, accessFlags := 26, slot := 5, constantValue := 0 }, { name := "allowSecurityManager", type := .int, accessFlags := 10, slot := 6, constantValue := 0 }, { name := "security", type := (.object "java/lang/SecurityManager"), accessFlags := 74, slot := 7, constantValue := 0 }, { name := "notSupportedJnuEncoding", type := (.object "java/lang/String"), accessFlags := 10, slot := 8, constantValue := 0 }, { name := "cons", type := (.object "java/io/Console"), accessFlags := 74, slot := 9, constantValue := 0 }, { name := "initialErrStream", type := (.object "java/io/PrintStream"), accessFlags := 74, slot := 10, constantValue := 0 }, { name := "props", type := (.object "java/util/Properties"), accessFlags := 10, slot := 11, constantValue := 0 }, { name := "lineSeparator", type := (.object "java/lang/String"), accessFlags := 10, slot := 12, constantValue := 0 }, { name := "bootLayer", type := (.object "java/lang/ModuleLayer"), accessFlags := 8, slot := 13, constantValue := 0 }]
  methods := #[k14m0, k14m1]
  instanceTypes := #[]
  staticTypes := #[(.object "java/io/InputStream"), (.object "java/io/PrintStream"), (.object "java/io/PrintStream"), (.object "java/io/InputStream"), .int, .int, .int, (.object "java/lang/SecurityManager"), (.object "java/lang/String"), (.object "java/io/Console"), (.object "java/io/PrintStream"), (.object "java/util/Properties"), (.object "java/lang/String"), (.object "java/lang/ModuleLayer")]
  resolved := Array.replicate 834 none
  statics := none }

def pool15 : Array CpInfo := pool [(2, .class_ 4), (1, u "java/lang/Object"), (0, u "<init>"), (0, u "()V"), (7, .class_ 16), (1, u "java/util/Arrays"), (57, .class_ 76), (1, u "java/util/Arrays$NaturalOrder"), (36, .class_ 115), (1, u "java/util/Arrays$LegacyMergeSort"), (1, u "Z"), (21, u "copyOfRange"), (10, .methodref 151 152), (0, .class_ 153), (0, .nameAndType 154 155), (0, u "java/lang/System"), (0, u "arraycopy"), (0, u "(Ljava/lang/Object;ILjava/lang/Object;II)V"), (148, .methodref 305 306), (0, .class_ 307), (0, .nameAndType 308 309), (0, u "java/lang/Math"), (0, u "min"), (0, u "(II)I"), (29, .methodref 14 340), (0, .nameAndType 341 342), (0, u "copyOfRangeByte"), (0, u "([BII)[B"), (0, .methodref 14 344), (0, .nameAndType 345 346), (0, u "checkLength"), (0, u "(II)V"), (28, .class_ 376), (0, u "java/util/Arrays$ArrayList"), (68, u "$assertionsDisabled"), (269, u "MIN_ARRAY_SORT_GRAN"), (0, u "I"), (2, u "INSERTIONSORT_THRESHOLD"), (255, .class_ 976), (0, u "java/util/Arrays$ArrayItr")] 52

def k15m0 : Method := { name := "<init>", desc := "()V", sig := { parameters := [], returnType := none }, accessFlags := 2, code := none }
def k15c1 : Code := { maxStack := 4, maxLocals := 2, code := jdk_65_method_131_code, exceptionTable := #[], attributes := #[] }
def k15m1 : Method := { name := "checkLength", desc := "(II)V", sig := { parameters := [.int, .int], returnType := none }, accessFlags := 10, code := some k15c1 }
def k15c2 : Code := { maxStack := 3, maxLocals := 3, code := jdk_65_method_132_code, exceptionTable := #[], attributes := #[] }
def k15m2 : Method := { name := "copyOfRange", desc := "([BII)[B", sig := { parameters := [(.array .byte), .int, .int], returnType := some (.array .byte) }, accessFlags := 9, code := some k15c2 }
def k15c3 : Code := { maxStack := 6, maxLocals := 5, code := jdk_65_method_133_code, exceptionTable := #[], attributes := #[] }
def k15m3 : Method := { name := "copyOfRangeByte", desc := "([BII)[B", sig := { parameters := [(.array .byte), .int, .int], returnType := some (.array .byte) }, accessFlags := 10, code := some k15c3 }
/-- java/util/Arrays -/
def k15 : Class := { plain "java/util/Arrays" (some 0) with
  accessFlags := 49
  interfaces := #[]
  cf := some (fileOf pool15 14 #[.nestMembers #[975, 375, 113, 74]] #[{ accessFlags := 2, nameIndex := 5, descriptorIndex := 6, attributes := #[] }, { accessFlags := 10, nameIndex := 345, descriptorIndex := 346, attributes := #[] }, { accessFlags := 9, nameIndex := 139, descriptorIndex := 342, attributes := #[] }, { accessFlags := 10, nameIndex := 341, descriptorIndex := 342, attributes := #[] }] 49 2 #[] #[{ accessFlags := 26, nameIndex := 715, descriptorIndex := 716, attributes := #[] }, { accessFlags := 26, nameIndex := 719, descriptorIndex := 716, attributes := #[] }, { accessFlags := 4120, nameIndex := 445, descriptorIndex := 117, attributes := #[] }])
  fields := #[{ name := "MIN_ARRAY_SORT_GRAN", type := .int, accessFlags := 26, slot := 0, constantValue := 0 }, { name := "INSERTIONSORT_THRESHOLD", type := .int, accessFlags := 26, slot := 1, constantValue := 0 }, { name := "$assertionsDisabled", type := .boolean, accessFlags := 4120, slot := 2, constantValue := 0 }]
  methods := #[k15m0, k15m1, k15m2, k15m3]
  instanceTypes := #[]
  staticTypes := #[.int, .int, .boolean]
  resolved := Array.replicate 1029 none
  statics := none }

def pool16 : Array CpInfo := pool [(1, .class_ 2), (0, u "java/lang/Math"), (1, .class_ 6), (1, u "java/lang/Object"), (0, u "<init>"), (0, u "()V"), (89, .class_ 100), (1, u "java/lang/Math$RandomNumberGeneratorHolder"), (71, u "negativeZeroFloatBits"), (0, u "J"), (2, u "negativeZeroDoubleBits"), (24, u "min"), (43, u "$assertionsDisabled"), (0, u "Z"), (88, u "(II)I"), (2, u "twoToTheDoubleScaleDown"), (0, u "D"), (4, u "twoToTheDoubleScaleUp"), (9, u "E"), (3, u "PI"), (2, u "TAU"), (2, u "DEGREES_TO_RADIANS"), (0, u "RADIANS_TO_DEGREES")] 94

def k16m0 : Method := { name := "<init>", desc := "()V", sig := { parameters := [], returnType := none }, accessFlags := 2, code := none }
def k16c1 : Code := { maxStack := 2, maxLocals := 2, code := jdk_29_method_69_code, exceptionTable := #[], attributes := #[] }
def k16m1 : Method := { name := "min", desc := "(II)I", sig := { parameters := [.int, .int], returnType := some .int }, accessFlags := 9, code := some k16c1 }
/-- java/lang/Math -/
def k16 : Class := { plain "java/lang/Math" (some 0) with
  accessFlags := 49
  interfaces := #[]
  cf := some (fileOf pool16 1 #[.nestMembers #[98]] #[{ accessFlags := 2, nameIndex := 7, descriptorIndex := 8, attributes := #[] }, { accessFlags := 9, nameIndex := 201, descriptorIndex := 335, attributes := #[] }] 49 4 #[] #[{ accessFlags := 25, nameIndex := 354, descriptorIndex := 339, attributes := #[] }, { accessFlags := 25, nameIndex := 358, descriptorIndex := 339, attributes := #[] }, { accessFlags := 25, nameIndex := 361, descriptorIndex := 339, attributes := #[] }, { accessFlags := 26, nameIndex := 364, descriptorIndex := 339, attributes := #[] }, { accessFlags := 26, nameIndex := 365, descriptorIndex := 339, attributes := #[] }, { accessFlags := 26, nameIndex := 172, descriptorIndex := 173, attributes := #[] }, { accessFlags := 26, nameIndex := 176, descriptorIndex := 173, attributes := #[] }, { accessFlags := 8, nameIndex := 344, descriptorIndex := 339, attributes := #[] }, { accessFlags := 8, nameIndex := 338, descriptorIndex := 339, attributes := #[] }, { accessFlags := 4120, nameIndex := 245, descriptorIndex := 246, attributes := #[] }])
  fields := #[{ name := "E", type := .double, accessFlags := 25, slot := 0, constantValue := 0 }, { name := "PI", type := .double, accessFlags := 25, slot := 1, constantValue := 0 }, { name := "TAU", type := .double, accessFlags := 25, slot := 2, constantValue := 0 }, { name := "DEGREES_TO_RADIANS", type := .double, accessFlags := 26, slot := 3, constantValue := 0 }, { name := "RADIANS_TO_DEGREES", type := .double, accessFlags := 26, slot := 4, constantValue := 0 }, { name := "negativeZeroFloatBits", type := .long, accessFlags := 26, slot := 5, constantValue := 0 }, { name := "negativeZeroDoubleBits", type := .long, accessFlags := 26, slot := 6, constantValue := 0 }, { name := "twoToTheDoubleScaleUp", type := .double, accessFlags := 8, slot := 7, constantValue := 0 }, { name := "twoToTheDoubleScaleDown", type := .double, accessFlags := 8, slot := 8, constantValue := 0 }, { name := "$assertionsDisabled", type := .boolean, accessFlags := 4120, slot := 9, constantValue := 0 }]
  methods := #[k16m0, k16m1]
  instanceTypes := #[]
  staticTypes := #[.double, .double, .double, .double, .double, .long, .long, .double, .double, .boolean]
  resolved := Array.replicate 460 none
  statics := none }

def pool17 : Array CpInfo := pool [(4, .class_ 6), (1, u "java/lang/Object"), (0, u "<init>"), (0, u "()V"), (5, .class_ 16), (1, u "java/lang/StringLatin1"), (104, u "$assertionsDisabled"), (0, u "Z"), (98, .class_ 223), (1, u "java/lang/StringLatin1$LinesSpliterator"), (57, u "equals"), (0, u "([B[B)Z"), (107, .class_ 391), (0, u "java/lang/StringLatin1$CharsSpliterator")] 3

def k17m0 : Method := { name := "<init>", desc := "()V", sig := { parameters := [], returnType := none }, accessFlags := 0, code := none }
def k17c1 : Code := { maxStack := 3, maxLocals := 3, code := jdk_43_method_13_code, exceptionTable := #[], attributes := #[] }
def k17m1 : Method := { name := "equals", desc := "([B[B)Z", sig := { parameters := [(.array .byte), (.array .byte)], returnType := some .boolean }, accessFlags := 9, code := some k17c1 }
/-- java/lang/StringLatin1 -/
def k17 : Class := { plain "java/lang/StringLatin1" (some 0) with
  accessFlags := 48
  interfaces := #[]
  cf := some (fileOf pool17 14 #[.nestMembers #[390, 221]] #[{ accessFlags := 0, nameIndex := 7, descriptorIndex := 8, attributes := #[] }, { accessFlags := 9, nameIndex := 281, descriptorIndex := 282, attributes := #[] }] 48 4 #[] #[{ accessFlags := 4120, nameIndex := 121, descriptorIndex := 122, attributes := #[] }])
  fields := #[{ name := "$assertionsDisabled", type := .boolean, accessFlags := 4120, slot := 0, constantValue := 0 }]
  methods := #[k17m0, k17m1]
  instanceTypes := #[]
  staticTypes := #[.boolean]
  resolved := Array.replicate 395 none
  statics := none }

def pool18 : Array CpInfo := pool [(2, .class_ 4), (1, u "java/lang/Object"), (0, u "<init>"), (0, u "()V"), (17, .class_ 26), (1, u "jdk/internal/util/Preconditions"), (28, .class_ 56), (0, u "jdk/internal/util/Preconditions$4"), (57, .class_ 115), (0, u "jdk/internal/util/Preconditions$1"), (7, u "SIOOBE_FORMATTER"), (0, u "Ljava/util/function/BiFunction;"), (0, .class_ 126), (0, u "jdk/internal/util/Preconditions$2"), (3, u "AIOOBE_FORMATTER"), (0, .class_ 132), (0, u "jdk/internal/util/Preconditions$3"), (3, u "IOOBE_FORMATTER")] 57

def k18m0 : Method := { name := "<init>", desc := "()V", sig := { parameters := [], returnType := none }, accessFlags := 1, code := none }
/-- jdk/internal/util/Preconditions -/
def k18 : Class := { plain "jdk/internal/util/Preconditions" (some 0) with
  accessFlags := 33
  interfaces := #[]
  cf := some (fileOf pool18 24 #[.nestMembers #[55, 131, 125, 114]] #[{ accessFlags := 1, nameIndex := 5, descriptorIndex := 6, attributes := #[] }] 33 2 #[] #[{ accessFlags := 25, nameIndex := 123, descriptorIndex := 124, attributes := #[] }, { accessFlags := 25, nameIndex := 130, descriptorIndex := 124, attributes := #[] }, { accessFlags := 25, nameIndex := 136, descriptorIndex := 124, attributes := #[] }])
  fields := #[{ name := "SIOOBE_FORMATTER", type := (.object "java/util/function/BiFunction"), accessFlags := 25, slot := 0, constantValue := 0 }, { name := "AIOOBE_FORMATTER", type := (.object "java/util/function/BiFunction"), accessFlags := 25, slot := 1, constantValue := 0 }, { name := "IOOBE_FORMATTER", type := (.object "java/util/function/BiFunction"), accessFlags := 25, slot := 2, constantValue := 0 }]
  methods := #[k18m0]
  instanceTypes := #[]
  staticTypes := #[(.object "java/util/function/BiFunction"), (.object "java/util/function/BiFunction"), (.object "java/util/function/BiFunction")]
  resolved := Array.replicate 194 none
  statics := some 1 }

def pool19 : Array CpInfo := pool [(9, u "<init>"), (6, .class_ 18), (1, u "java/lang/Object"), (0, u "()V"), (1, .class_ 23), (1, u "jdk/internal/util/ArraysSupport"), (0, u "LOG2_ARRAY_LONG_INDEX_SCALE"), (0, u "I"), (2, u "U"), (0, u "Ljdk/internal/misc/Unsafe;"), (8, u "BIG_ENDIAN"), (0, u "Z"), (8, u "LOG2_BYTE_BIT_SIZE"), (4, u "LOG2_ARRAY_INT_INDEX_SCALE"), (54, u "JLA"), (0, u "Ljdk/internal/access/JavaLangAccess;"), (11, u "LOG2_ARRAY_BOOLEAN_INDEX_SCALE"), (9, u "LOG2_ARRAY_BYTE_INDEX_SCALE"), (5, u "LOG2_ARRAY_CHAR_INDEX_SCALE"), (5, u "LOG2_ARRAY_SHORT_INDEX_SCALE"), (18, u "LOG2_ARRAY_FLOAT_INDEX_SCALE"), (24, u "LOG2_ARRAY_DOUBLE_INDEX_SCALE"), (89, u "T_BOOLEAN"), (2, u "T_CHAR"), (1, u "T_FLOAT"), (1, u "T_DOUBLE"), (1, u "T_BYTE"), (1, u "T_SHORT"), (1, u "T_INT"), (1, u "T_LONG"), (1, u "SOFT_MAX_ARRAY_LENGTH")] 83

def k19m0 : Method := { name := "<init>", desc := "()V", sig := { parameters := [], returnType := none }, accessFlags := 2, code := none }
/-- jdk/internal/util/ArraysSupport -/
def k19 : Class := { plain "jdk/internal/util/ArraysSupport" (some 0) with
  accessFlags := 33
  interfaces := #[]
  cf := some (fileOf pool19 21 #[] #[{ accessFlags := 2, nameIndex := 9, descriptorIndex := 19, attributes := #[] }] 33 16 #[] #[{ accessFlags := 24, nameIndex := 28, descriptorIndex := 29, attributes := #[] }, { accessFlags := 26, nameIndex := 38, descriptorIndex := 39, attributes := #[] }, { accessFlags := 25, nameIndex := 121, descriptorIndex := 25, attributes := #[] }, { accessFlags := 25, nameIndex := 131, descriptorIndex := 25, attributes := #[] }, { accessFlags := 25, nameIndex := 137, descriptorIndex := 25, attributes := #[] }, { accessFlags := 25, nameIndex := 143, descriptorIndex := 25, attributes := #[] }, { accessFlags := 25, nameIndex := 53, descriptorIndex := 25, attributes := #[] }, { accessFlags := 25, nameIndex := 24, descriptorIndex := 25, attributes := #[] }, { accessFlags := 25, nameIndex := 162, descriptorIndex := 25, attributes := #[] }, { accessFlags := 25, nameIndex := 187, descriptorIndex := 25, attributes := #[] }, { accessFlags := 26, nameIndex := 48, descriptorIndex := 25, attributes := #[] }, { accessFlags := 25, nameIndex := 277, descriptorIndex := 25, attributes := #[] }, { accessFlags := 25, nameIndex := 280, descriptorIndex := 25, attributes := #[] }, { accessFlags := 25, nameIndex := 282, descriptorIndex := 25, attributes := #[] }, { accessFlags := 25, nameIndex := 284, descriptorIndex := 25, attributes := #[] }, { accessFlags := 25, nameIndex := 286, descriptorIndex := 25, attributes := #[] }, { accessFlags := 25, nameIndex := 288, descriptorIndex := 25, attributes := #[] }, { accessFlags := 25, nameIndex := 290, descriptorIndex := 25, attributes := #[] }, { accessFlags := 25, nameIndex := 292, descriptorIndex := 25, attributes := #[] }, { accessFlags := 26, nameIndex := 108, descriptorIndex := 109, attributes := #[] }, { accessFlags := 25, nameIndex := 294, descriptorIndex := 25, attributes := #[] }])
  fields := #[{ name := "U", type := (.object "jdk/internal/misc/Unsafe"), accessFlags := 24, slot := 0, constantValue := 0 }, { name := "BIG_ENDIAN", type := .boolean, accessFlags := 26, slot := 1, constantValue := 0 }, { name := "LOG2_ARRAY_BOOLEAN_INDEX_SCALE", type := .int, accessFlags := 25, slot := 2, constantValue := 0 }, { name := "LOG2_ARRAY_BYTE_INDEX_SCALE", type := .int, accessFlags := 25, slot := 3, constantValue := 0 }, { name := "LOG2_ARRAY_CHAR_INDEX_SCALE", type := .int, accessFlags := 25, slot := 4, constantValue := 0 }, { name := "LOG2_ARRAY_SHORT_INDEX_SCALE", type := .int, accessFlags := 25, slot := 5, constantValue := 0 }, { name := "LOG2_ARRAY_INT_INDEX_SCALE", type := .int, accessFlags := 25, slot := 6, constantValue := 0 }, { name := "LOG2_ARRAY_LONG_INDEX_SCALE", type := .int, accessFlags := 25, slot := 7, constantValue := 0 }, { name := "LOG2_ARRAY_FLOAT_INDEX_SCALE", type := .int, accessFlags := 25, slot := 8, constantValue := 0 }, { name := "LOG2_ARRAY_DOUBLE_INDEX_SCALE", type := .int, accessFlags := 25, slot := 9, constantValue := 0 }, { name := "LOG2_BYTE_BIT_SIZE", type := .int, accessFlags := 26, slot := 10, constantValue := 0 }, { name := "T_BOOLEAN", type := .int, accessFlags := 25, slot := 11, constantValue := 0 }, { name := "T_CHAR", type := .int, accessFlags := 25, slot := 12, constantValue := 0 }, { name := "T_FLOAT", type := .int, accessFlags := 25, slot := 13, constantValue := 0 }, { name := "T_DOUBLE", type := .int, accessFlags := 25, slot := 14, constantValue := 0 }, { name := "T_BYTE", type := .int, accessFlags := 25, slot := 15, constantValue := 0 }, { name := "T_SHORT", type := .int, accessFlags := 25, slot := 16, constantValue := 0 }, { name := "T_INT", type := .int, accessFlags := 25, slot := 17, constantValue := 0 }, { name := "T_LONG", type := .int, accessFlags := 25, slot := 18, constantValue := 0 }, { name := "JLA", type := (.object "jdk/internal/access/JavaLangAccess"), accessFlags := 26, slot := 19, constantValue := 0 }, { name := "SOFT_MAX_ARRAY_LENGTH", type := .int, accessFlags := 25, slot := 20, constantValue := 0 }]
  methods := #[k19m0]
  instanceTypes := #[]
  staticTypes := #[(.object "jdk/internal/misc/Unsafe"), .boolean, .int, .int, .int, .int, .int, .int, .int, .int, .int, .int, .int, .int, .int, .int, .int, .int, .int, (.object "jdk/internal/access/JavaLangAccess"), .int]
  resolved := Array.replicate 378 none
  statics := none }

def pool20 : Array CpInfo := pool [(1, u "java/lang/Cloneable"), (0, .class_ 1), (0, u "java/lang/Object"), (0, .class_ 3)] 3

/-- java/lang/Cloneable -/
def k20 : Class := { plain "java/lang/Cloneable" (some 0) with
  accessFlags := 1537
  interfaces := #[]
  cf := some (fileOf pool20 2 #[] #[] 1537 4 #[] #[])
  fields := #[]
  methods := #[]
  instanceTypes := #[]
  staticTypes := #[]
  resolved := Array.replicate 8 none
  statics := none }

/-- the primitive byte -/
def k21 : Class := { plain "byte" none with kind := .primitive 'B', accessFlags := 0x411 }
/-- [B -/
def k22 : Class := { plain "[B" (some 0) with kind := .array 21 .byte, interfaces := #[20, 2], accessFlags := 1041 }

/-- the primitive char -/
def k23 : Class := { plain "char" none with kind := .primitive 'C', accessFlags := 0x411 }
/-- [C -/
def k24 : Class := { plain "[C" (some 0) with kind := .array 23 .char, interfaces := #[20, 2], accessFlags := 1041 }

/-- the primitive int -/
def k25 : Class := { plain "int" none with kind := .primitive 'I', accessFlags := 0x411 }
/-- [I -/
def k26 : Class := { plain "[I" (some 0) with kind := .array 25 .int, interfaces := #[20, 2], accessFlags := 1041 }

def heap : Heap := #[{ cls := 7, slots := #[.long 0, .int 1, .null, .int 0, .null, .int 0, .int 0], vm := .statics 7 },
  { cls := 18, slots := #[.null, .null, .null], vm := .statics 18 }]
def classes : Array Class := #[k0, k1, k2, k3, k4, k5, k6, k7, k8, k9, k10, k11, k12, k13, k14, k15, k16, k17, k18, k19, k20, k21, k22, k23, k24, k25, k26]
def interned : List (Array UInt16 × Addr) := []
def slotsUsed : Nat := 10
def theMethod : MethodId := ⟨1, 1⟩
def args0 : Array Value := #[.int 5, .int 6, .int 7, .int 8]
def aboutOver (below : List Frame) : State where
  vm := { classes := classes, interned := interned.toArray }
  heap := heap
  slotsUsed := slotsUsed
  threads := #[{ frames := .invoking theMethod args0 :: below }]
def below0 : List Frame := [.native { method := ⟨0, 0⟩, args := #[] }]
def about1 : State := aboutOver below0
def p0 : Program := .bare "" "" ""
def e0 : Env := launch0.env 0 0 0
theorem w_frames : about1.frames = Frame.invoking theMethod args0 :: below0 := rfl
set_option maxRecDepth 65536 in
theorem w_args : argsFit about1.vm theMethod args0 = true := by decide +kernel
set_option maxRecDepth 65536 in
theorem w_heap : heapFits about1 = true := by decide +kernel
set_option maxRecDepth 65536 in
theorem w_runnable : about1.curStatus? = some .runnable := by decide +kernel
set_option maxRecDepth 65536 in
theorem w_alone : about1.alone = true := by decide +kernel
set_option maxRecDepth 65536 in
theorem w_named : about1.methodNamed? x = some theMethod := by decide +kernel
set_option maxRecDepth 65536 in
theorem w_hears : about1.hears theMethod below0 = true := by decide +kernel
set_option maxRecDepth 65536 in
theorem w_ripe : about1.ripe theMethod args0 below0 = true := by decide +kernel
theorem w_running : about1.status = .running := rfl
set_option maxRecDepth 65536 in
theorem w_room : about1.hasRoom e0.platform room_1 = true :=
  launch0.hasRoom_least _ room_1 (by decide +kernel) (by decide +kernel) (by decide +kernel) (by decide +kernel) (by decide +kernel) (by decide +kernel)
theorem allAtoms_all (ts : List Jvm.Cond) (a : Array Jvm.Value) (st : Jvm.State) : (allAtoms ts).before a st = ts.all (fun c => c.before a st) := by
  induction ts with
  | nil => rfl
  | cons c t ih =>
    show (Jvm.Cond.and c (allAtoms t)).before a st = _
    rw [Jvm.Cond.before_and, ih, List.all_cons]
def words1 : List Jvm.Cond := Jvm.Cond.code x code maxLocals ret :: tables_1
/-- a 'code' word, met by the world's own term for the bytes: nothing is compared byte by byte -/
theorem code_word {y : MethodName} {bytes : ByteArray} {mx : Nat} {rt : Option FieldType} {a : Array Value} {s : State} {m : MethodId} {meth : Method} {c : Code} (h1 : s.methodNamed? y = some m) (h2 : s.vm.method? m = some meth) (h3 : meth.code = some c) (h4 : c.code = bytes)
    (h5 : (c.maxLocals == mx && c.exceptionTable.isEmpty && decide (c.maxStack ≤ mostOperands) && decide (meth.sig.returnType = rt) && !meth.locks && decide (parseMethodDescriptor y.desc = some meth.sig)) = true) : (Jvm.Cond.code y bytes mx rt).before a s = true := by
  simp only [Bool.and_eq_true, beq_iff_eq, Bool.not_eq_true', decide_eq_true_eq] at h5
  obtain ⟨⟨⟨⟨⟨g1, g2⟩, g3⟩, g4⟩, g5⟩, g6⟩ := h5
  simp [Cond.before, Cond.holds, Cond.value, h1, h2, h3, h4, g1, g2, g3, g4, g5, g6]
def isCode : Jvm.Cond → Bool
  | .code _ _ _ _ => true
  | _ => false
theorem all_split {L : List Jvm.Cond} {P : Jvm.Cond → Bool} (h1 : L.all (fun c => isCode c || P c) = true) (h2 : ∀ c ∈ L.filter isCode, P c = true) : L.all P = true := by
  refine List.all_eq_true.mpr fun c hc => ?_
  have h := List.all_eq_true.mp h1 c hc
  rcases Bool.eq_false_or_eq_true (isCode c) with hi | hi
  · exact h2 c (List.mem_filter.mpr ⟨hc, hi⟩)
  · simpa [hi] using h
set_option maxRecDepth 65536 in
theorem w_c0 : (Jvm.Cond.code x code maxLocals ret).before args0 about1 = true := code_word (m := ⟨1, 1⟩) (meth := k1m1) (c := k1c1) (by decide +kernel) rfl rfl rfl (by decide +kernel)
set_option maxRecDepth 65536 in
theorem w_c1 : (Jvm.Cond.code ({ cls := "java/lang/String", name := "<init>", desc := "([C)V" } : Jvm.MethodName) jdk_42_method_3_code (2 : Nat) (Option.none : Option Jvm.ClassFile.FieldType)).before args0 about1 = true := code_word (m := ⟨7, 1⟩) (meth := k7m1) (c := k7c1) (by decide +kernel) rfl rfl rfl (by decide +kernel)
set_option maxRecDepth 65536 in
theorem w_c2 : (Jvm.Cond.code ({ cls := "java/lang/String", name := "<init>", desc := "([CIILjava/lang/Void;)V" } : Jvm.MethodName) jdk_42_method_149_code (6 : Nat) (Option.none : Option Jvm.ClassFile.FieldType)).before args0 about1 = true := code_word (m := ⟨7, 6⟩) (meth := k7m6) (c := k7c6) (by decide +kernel) rfl rfl rfl (by decide +kernel)
set_option maxRecDepth 65536 in
theorem w_c3 : (Jvm.Cond.code ({ cls := "java/lang/Object", name := "<init>", desc := "()V" } : Jvm.MethodName) object_method_1_code (1 : Nat) (Option.none : Option Jvm.ClassFile.FieldType)).before args0 about1 = true := code_word (m := ⟨0, 0⟩) (meth := k0m0) (c := k0c0) (by decide +kernel) rfl rfl rfl (by decide +kernel)
set_option maxRecDepth 65536 in
theorem w_c4 : (Jvm.Cond.code ({ cls := "java/lang/StringUTF16", name := "compress", desc := "([CII)[B" } : Jvm.MethodName) jdk_52_method_16_code (6 : Nat) (Option.some (Jvm.ClassFile.FieldType.array Jvm.ClassFile.FieldType.byte))).before args0 about1 = true := code_word (m := ⟨8, 2⟩) (meth := k8m2) (c := k8c2) (by decide +kernel) rfl rfl rfl (by decide +kernel)
set_option maxRecDepth 65536 in
theorem w_c5 : (Jvm.Cond.code ({ cls := "java/lang/StringUTF16", name := "compress", desc := "([CI[BII)I" } : Jvm.MethodName) jdk_52_method_21_code (7 : Nat) (Option.some Jvm.ClassFile.FieldType.int)).before args0 about1 = true := code_word (m := ⟨8, 3⟩) (meth := k8m3) (c := k8c3) (by decide +kernel) rfl rfl rfl (by decide +kernel)
set_option maxRecDepth 65536 in
theorem w_c6 : (Jvm.Cond.code ({ cls := "java/lang/StringUTF16", name := "coderFromArrayLen", desc := "([BI)B" } : Jvm.MethodName) jdk_52_method_15_code (2 : Nat) (Option.some Jvm.ClassFile.FieldType.byte)).before args0 about1 = true := code_word (m := ⟨8, 1⟩) (meth := k8m1) (c := k8c1) (by decide +kernel) rfl rfl rfl (by decide +kernel)
set_option maxRecDepth 65536 in
theorem w_c7 : (Jvm.Cond.code ({ cls := "com/example/countersign/countersign/Verdict", name := "invalid", desc := "(Ljava/lang/String;)Lcom/example/countersign/countersign/Verdict;" } : Jvm.MethodName) prog_11_method_3_code (1 : Nat) (Option.some (Jvm.ClassFile.FieldType.object "com/example/countersign/countersign/Verdict"))).before args0 about1 = true := code_word (m := ⟨9, 1⟩) (meth := k9m1) (c := k9c1) (by decide +kernel) rfl rfl rfl (by decide +kernel)
set_option maxRecDepth 65536 in
theorem w_c8 : (Jvm.Cond.code ({ cls := "java/util/Objects", name := "requireNonNull", desc := "(Ljava/lang/Object;Ljava/lang/String;)Ljava/lang/Object;" } : Jvm.MethodName) jdk_31_method_11_code (2 : Nat) (Option.some (Jvm.ClassFile.FieldType.object "java/lang/Object"))).before args0 about1 = true := code_word (m := ⟨10, 1⟩) (meth := k10m1) (c := k10c1) (by decide +kernel) rfl rfl rfl (by decide +kernel)
set_option maxRecDepth 65536 in
theorem w_c9 : (Jvm.Cond.code ({ cls := "com/example/countersign/countersign/Verdict", name := "<init>", desc := "(Ljava/lang/String;)V" } : Jvm.MethodName) prog_11_method_1_code (2 : Nat) (Option.none : Option Jvm.ClassFile.FieldType)).before args0 about1 = true := code_word (m := ⟨9, 0⟩) (meth := k9m0) (c := k9c0) (by decide +kernel) rfl rfl rfl (by decide +kernel)
set_option maxRecDepth 65536 in
theorem w_c10 : (Jvm.Cond.code ({ cls := "com/example/countersign/countersign/Verdict", name := "isValid", desc := "()Z" } : Jvm.MethodName) prog_11_method_4_code (1 : Nat) (Option.some Jvm.ClassFile.FieldType.boolean)).before args0 about1 = true := code_word (m := ⟨9, 2⟩) (meth := k9m2) (c := k9c2) (by decide +kernel) rfl rfl rfl (by decide +kernel)
set_option maxRecDepth 65536 in
theorem w_c11 : (Jvm.Cond.code ({ cls := "com/example/countersign/countersign/Verdict", name := "toString", desc := "()Ljava/lang/String;" } : Jvm.MethodName) prog_11_method_6_code (1 : Nat) (Option.some (Jvm.ClassFile.FieldType.object "java/lang/String"))).before args0 about1 = true := code_word (m := ⟨9, 3⟩) (meth := k9m3) (c := k9c3) (by decide +kernel) rfl rfl rfl (by decide +kernel)
set_option maxRecDepth 65536 in
theorem w_c12 : (Jvm.Cond.code ({ cls := "java/lang/StringBuilder", name := "<init>", desc := "()V" } : Jvm.MethodName) jdk_67_method_1_code (1 : Nat) (Option.none : Option Jvm.ClassFile.FieldType)).before args0 about1 = true := code_word (m := ⟨13, 0⟩) (meth := k13m0) (c := k13c0) (by decide +kernel) rfl rfl rfl (by decide +kernel)
set_option maxRecDepth 65536 in
theorem w_c13 : (Jvm.Cond.code ({ cls := "java/lang/AbstractStringBuilder", name := "<init>", desc := "(I)V" } : Jvm.MethodName) jdk_68_method_2_code (2 : Nat) (Option.none : Option Jvm.ClassFile.FieldType)).before args0 about1 = true := code_word (m := ⟨12, 1⟩) (meth := k12m1) (c := k12c1) (by decide +kernel) rfl rfl rfl (by decide +kernel)
set_option maxRecDepth 65536 in
theorem w_c14 : (Jvm.Cond.code ({ cls := "java/lang/StringBuilder", name := "append", desc := "(Ljava/lang/String;)Ljava/lang/StringBuilder;" } : Jvm.MethodName) jdk_67_method_7_code (2 : Nat) (Option.some (Jvm.ClassFile.FieldType.object "java/lang/StringBuilder"))).before args0 about1 = true := code_word (m := ⟨13, 1⟩) (meth := k13m1) (c := k13c1) (by decide +kernel) rfl rfl rfl (by decide +kernel)
set_option maxRecDepth 65536 in
theorem w_c15 : (Jvm.Cond.code ({ cls := "java/lang/AbstractStringBuilder", name := "append", desc := "(Ljava/lang/String;)Ljava/lang/AbstractStringBuilder;" } : Jvm.MethodName) jdk_68_method_22_code (3 : Nat) (Option.some (Jvm.ClassFile.FieldType.object "java/lang/AbstractStringBuilder"))).before args0 about1 = true := code_word (m := ⟨12, 4⟩) (meth := k12m4) (c := k12c4) (by decide +kernel) rfl rfl rfl (by decide +kernel)
set_option maxRecDepth 65536 in
theorem w_c16 : (Jvm.Cond.code ({ cls := "java/lang/String", name := "length", desc := "()I" } : Jvm.MethodName) jdk_42_method_54_code (1 : Nat) (Option.some Jvm.ClassFile.FieldType.int)).before args0 about1 = true := code_word (m := ⟨7, 3⟩) (meth := k7m3) (c := k7c3) (by decide +kernel) rfl rfl rfl (by decide +kernel)
set_option maxRecDepth 65536 in
theorem w_c17 : (Jvm.Cond.code ({ cls := "java/lang/String", name := "coder", desc := "()B" } : Jvm.MethodName) jdk_42_method_152_code (1 : Nat) (Option.some Jvm.ClassFile.FieldType.byte)).before args0 about1 = true := code_word (m := ⟨7, 8⟩) (meth := k7m8) (c := k7c8) (by decide +kernel) rfl rfl rfl (by decide +kernel)
set_option maxRecDepth 65536 in
theorem w_c18 : (Jvm.Cond.code ({ cls := "java/lang/AbstractStringBuilder", name := "ensureCapacityInternal", desc := "(I)V" } : Jvm.MethodName) jdk_68_method_9_code (3 : Nat) (Option.none : Option Jvm.ClassFile.FieldType)).before args0 about1 = true := code_word (m := ⟨12, 3⟩) (meth := k12m3) (c := k12c3) (by decide +kernel) rfl rfl rfl (by decide +kernel)
set_option maxRecDepth 65536 in
theorem w_c19 : (Jvm.Cond.code ({ cls := "java/lang/AbstractStringBuilder", name := "putStringAt", desc := "(ILjava/lang/String;)V" } : Jvm.MethodName) jdk_68_method_73_code (3 : Nat) (Option.none : Option Jvm.ClassFile.FieldType)).before args0 about1 = true := code_word (m := ⟨12, 8⟩) (meth := k12m8) (c := k12c8) (by decide +kernel) rfl rfl rfl (by decide +kernel)
set_option maxRecDepth 65536 in
theorem w_c20 : (Jvm.Cond.code ({ cls := "java/lang/AbstractStringBuilder", name := "inflateIfNeededFor", desc := "(Ljava/lang/String;)V" } : Jvm.MethodName) jdk_68_method_71_code (2 : Nat) (Option.none : Option Jvm.ClassFile.FieldType)).before args0 about1 = true := code_word (m := ⟨12, 7⟩) (meth := k12m7) (c := k12c7) (by decide +kernel) rfl rfl rfl (by decide +kernel)
set_option maxRecDepth 65536 in
theorem w_c21 : (Jvm.Cond.code ({ cls := "java/lang/String", name := "getBytes", desc := "([BIB)V" } : Jvm.MethodName) jdk_42_method_147_code (4 : Nat) (Option.none : Option Jvm.ClassFile.FieldType)).before args0 about1 = true := code_word (m := ⟨7, 5⟩) (meth := k7m5) (c := k7c5) (by decide +kernel) rfl rfl rfl (by decide +kernel)
set_option maxRecDepth 65536 in
theorem w_c22 : (Jvm.Cond.code ({ cls := "java/lang/StringBuilder", name := "toString", desc := "()Ljava/lang/String;" } : Jvm.MethodName) jdk_67_method_42_code (1 : Nat) (Option.some (Jvm.ClassFile.FieldType.object "java/lang/String"))).before args0 about1 = true := code_word (m := ⟨13, 2⟩) (meth := k13m2) (c := k13c2) (by decide +kernel) rfl rfl rfl (by decide +kernel)
set_option maxRecDepth 65536 in
theorem w_c23 : (Jvm.Cond.code ({ cls := "java/lang/String", name := "<init>", desc := "(Ljava/lang/StringBuilder;)V" } : Jvm.MethodName) jdk_42_method_53_code (2 : Nat) (Option.none : Option Jvm.ClassFile.FieldType)).before args0 about1 = true := code_word (m := ⟨7, 2⟩) (meth := k7m2) (c := k7c2) (by decide +kernel) rfl rfl rfl (by decide +kernel)
set_option maxRecDepth 65536 in
theorem w_c24 : (Jvm.Cond.code ({ cls := "java/lang/String", name := "<init>", desc := "(Ljava/lang/AbstractStringBuilder;Ljava/lang/Void;)V" } : Jvm.MethodName) jdk_42_method_150_code (5 : Nat) (Option.none : Option Jvm.ClassFile.FieldType)).before args0 about1 = true := code_word (m := ⟨7, 7⟩) (meth := k7m7) (c := k7c7) (by decide +kernel) rfl rfl rfl (by decide +kernel)
set_option maxRecDepth 65536 in
theorem w_c25 : (Jvm.Cond.code ({ cls := "java/lang/AbstractStringBuilder", name := "getValue", desc := "()[B" } : Jvm.MethodName) jdk_68_method_64_code (1 : Nat) (Option.some (Jvm.ClassFile.FieldType.array Jvm.ClassFile.FieldType.byte))).before args0 about1 = true := code_word (m := ⟨12, 5⟩) (meth := k12m5) (c := k12c5) (by decide +kernel) rfl rfl rfl (by decide +kernel)
set_option maxRecDepth 65536 in
theorem w_c26 : (Jvm.Cond.code ({ cls := "java/lang/StringBuilder", name := "length", desc := "()I" } : Jvm.MethodName) jdk_67_method_93_code (1 : Nat) (Option.some Jvm.ClassFile.FieldType.int)).before args0 about1 = true := code_word (m := ⟨13, 3⟩) (meth := k13m3) (c := k13c3) (by decide +kernel) rfl rfl rfl (by decide +kernel)
set_option maxRecDepth 65536 in
theorem w_c27 : (Jvm.Cond.code ({ cls := "java/lang/AbstractStringBuilder", name := "length", desc := "()I" } : Jvm.MethodName) jdk_68_method_6_code (1 : Nat) (Option.some Jvm.ClassFile.FieldType.int)).before args0 about1 = true := code_word (m := ⟨12, 2⟩) (meth := k12m2) (c := k12c2) (by decide +kernel) rfl rfl rfl (by decide +kernel)
set_option maxRecDepth 65536 in
theorem w_c28 : (Jvm.Cond.code ({ cls := "java/lang/AbstractStringBuilder", name := "isLatin1", desc := "()Z" } : Jvm.MethodName) jdk_68_method_68_code (1 : Nat) (Option.some Jvm.ClassFile.FieldType.boolean)).before args0 about1 = true := code_word (m := ⟨12, 6⟩) (meth := k12m6) (c := k12c6) (by decide +kernel) rfl rfl rfl (by decide +kernel)
set_option maxRecDepth 65536 in
theorem w_c29 : (Jvm.Cond.code ({ cls := "java/util/Arrays", name := "copyOfRange", desc := "([BII)[B" } : Jvm.MethodName) jdk_65_method_132_code (3 : Nat) (Option.some (Jvm.ClassFile.FieldType.array Jvm.ClassFile.FieldType.byte))).before args0 about1 = true := code_word (m := ⟨15, 2⟩) (meth := k15m2) (c := k15c2) (by decide +kernel) rfl rfl rfl (by decide +kernel)
set_option maxRecDepth 65536 in
theorem w_c30 : (Jvm.Cond.code ({ cls := "java/util/Arrays", name := "copyOfRangeByte", desc := "([BII)[B" } : Jvm.MethodName) jdk_65_method_133_code (5 : Nat) (Option.some (Jvm.ClassFile.FieldType.array Jvm.ClassFile.FieldType.byte))).before args0 about1 = true := code_word (m := ⟨15, 3⟩) (meth := k15m3) (c := k15c3) (by decide +kernel) rfl rfl rfl (by decide +kernel)
set_option maxRecDepth 65536 in
theorem w_c31 : (Jvm.Cond.code ({ cls := "java/util/Arrays", name := "checkLength", desc := "(II)V" } : Jvm.MethodName) jdk_65_method_131_code (2 : Nat) (Option.none : Option Jvm.ClassFile.FieldType)).before args0 about1 = true := code_word (m := ⟨15, 1⟩) (meth := k15m1) (c := k15c1) (by decide +kernel) rfl rfl rfl (by decide +kernel)
set_option maxRecDepth 65536 in
theorem w_c32 : (Jvm.Cond.code ({ cls := "java/lang/Math", name := "min", desc := "(II)I" } : Jvm.MethodName) jdk_29_method_69_code (2 : Nat) (Option.some Jvm.ClassFile.FieldType.int)).before args0 about1 = true := code_word (m := ⟨16, 1⟩) (meth := k16m1) (c := k16c1) (by decide +kernel) rfl rfl rfl (by decide +kernel)
set_option maxRecDepth 65536 in
theorem w_c33 : (Jvm.Cond.code ({ cls := "java/lang/String", name := "equals", desc := "(Ljava/lang/Object;)Z" } : Jvm.MethodName) jdk_42_method_66_code (3 : Nat) (Option.some Jvm.ClassFile.FieldType.boolean)).before args0 about1 = true := code_word (m := ⟨7, 4⟩) (meth := k7m4) (c := k7c4) (by decide +kernel) rfl rfl rfl (by decide +kernel)
set_option maxRecDepth 65536 in
theorem w_c34 : (Jvm.Cond.code ({ cls := "java/lang/StringLatin1", name := "equals", desc := "([B[B)Z" } : Jvm.MethodName) jdk_43_method_13_code (3 : Nat) (Option.some Jvm.ClassFile.FieldType.boolean)).before args0 about1 = true := code_word (m := ⟨17, 1⟩) (meth := k17m1) (c := k17c1) (by decide +kernel) rfl rfl rfl (by decide +kernel)
def codes1 : List Jvm.Cond := [Jvm.Cond.code x code maxLocals ret, Jvm.Cond.code ({ cls := "java/lang/String", name := "<init>", desc := "([C)V" } : Jvm.MethodName) jdk_42_method_3_code (2 : Nat) (Option.none : Option Jvm.ClassFile.FieldType), Jvm.Cond.code ({ cls := "java/lang/String", name := "<init>", desc := "([CIILjava/lang/Void;)V" } : Jvm.MethodName) jdk_42_method_149_code (6 : Nat) (Option.none : Option Jvm.ClassFile.FieldType), Jvm.Cond.code ({ cls := "java/lang/Object", name := "<init>", desc := "()V" } : Jvm.MethodName) object_method_1_code (1 : Nat) (Option.none : Option Jvm.ClassFile.FieldType), Jvm.Cond.code ({ cls := "java/lang/StringUTF16", name := "compress", desc := "([CII)[B" } : Jvm.MethodName) jdk_52_method_16_code (6 : Nat) (Option.some (Jvm.ClassFile.FieldType.array Jvm.ClassFile.FieldType.byte)), Jvm.Cond.code ({ cls := "java/lang/StringUTF16", name := "compress", desc := "([CI[BII)I" } : Jvm.MethodName) jdk_52_method_21_code (7 : Nat) (Option.some Jvm.ClassFile.FieldType.int), Jvm.Cond.code ({ cls := "java/lang/StringUTF16", name := "coderFromArrayLen", desc := "([BI)B" } : Jvm.MethodName) jdk_52_method_15_code (2 : Nat) (Option.some Jvm.ClassFile.FieldType.byte), Jvm.Cond.code ({ cls := "com/example/countersign/countersign/Verdict", name := "invalid", desc := "(Ljava/lang/String;)Lcom/example/countersign/countersign/Verdict;" } : Jvm.MethodName) prog_11_method_3_code (1 : Nat) (Option.some (Jvm.ClassFile.FieldType.object "com/example/countersign/countersign/Verdict")), Jvm.Cond.code ({ cls := "java/util/Objects", name := "requireNonNull", desc := "(Ljava/lang/Object;Ljava/lang/String;)Ljava/lang/Object;" } : Jvm.MethodName) jdk_31_method_11_code (2 : Nat) (Option.some (Jvm.ClassFile.FieldType.object "java/lang/Object")), Jvm.Cond.code ({ cls := "com/example/countersign/countersign/Verdict", name := "<init>", desc := "(Ljava/lang/String;)V" } : Jvm.MethodName) prog_11_method_1_code (2 : Nat) (Option.none : Option Jvm.ClassFile.FieldType), Jvm.Cond.code ({ cls := "com/example/countersign/countersign/Verdict", name := "isValid", desc := "()Z" } : Jvm.MethodName) prog_11_method_4_code (1 : Nat) (Option.some Jvm.ClassFile.FieldType.boolean), Jvm.Cond.code ({ cls := "com/example/countersign/countersign/Verdict", name := "toString", desc := "()Ljava/lang/String;" } : Jvm.MethodName) prog_11_method_6_code (1 : Nat) (Option.some (Jvm.ClassFile.FieldType.object "java/lang/String")), Jvm.Cond.code ({ cls := "java/lang/StringBuilder", name := "<init>", desc := "()V" } : Jvm.MethodName) jdk_67_method_1_code (1 : Nat) (Option.none : Option Jvm.ClassFile.FieldType), Jvm.Cond.code ({ cls := "java/lang/AbstractStringBuilder", name := "<init>", desc := "(I)V" } : Jvm.MethodName) jdk_68_method_2_code (2 : Nat) (Option.none : Option Jvm.ClassFile.FieldType), Jvm.Cond.code ({ cls := "java/lang/StringBuilder", name := "append", desc := "(Ljava/lang/String;)Ljava/lang/StringBuilder;" } : Jvm.MethodName) jdk_67_method_7_code (2 : Nat) (Option.some (Jvm.ClassFile.FieldType.object "java/lang/StringBuilder")), Jvm.Cond.code ({ cls := "java/lang/AbstractStringBuilder", name := "append", desc := "(Ljava/lang/String;)Ljava/lang/AbstractStringBuilder;" } : Jvm.MethodName) jdk_68_method_22_code (3 : Nat) (Option.some (Jvm.ClassFile.FieldType.object "java/lang/AbstractStringBuilder")), Jvm.Cond.code ({ cls := "java/lang/String", name := "length", desc := "()I" } : Jvm.MethodName) jdk_42_method_54_code (1 : Nat) (Option.some Jvm.ClassFile.FieldType.int), Jvm.Cond.code ({ cls := "java/lang/String", name := "coder", desc := "()B" } : Jvm.MethodName) jdk_42_method_152_code (1 : Nat) (Option.some Jvm.ClassFile.FieldType.byte), Jvm.Cond.code ({ cls := "java/lang/AbstractStringBuilder", name := "ensureCapacityInternal", desc := "(I)V" } : Jvm.MethodName) jdk_68_method_9_code (3 : Nat) (Option.none : Option Jvm.ClassFile.FieldType), Jvm.Cond.code ({ cls := "java/lang/AbstractStringBuilder", name := "putStringAt", desc := "(ILjava/lang/String;)V" } : Jvm.MethodName) jdk_68_method_73_code (3 : Nat) (Option.none : Option Jvm.ClassFile.FieldType), Jvm.Cond.code ({ cls := "java/lang/AbstractStringBuilder", name := "inflateIfNeededFor", desc := "(Ljava/lang/String;)V" } : Jvm.MethodName) jdk_68_method_71_code (2 : Nat) (Option.none : Option Jvm.ClassFile.FieldType), Jvm.Cond.code ({ cls := "java/lang/String", name := "getBytes", desc := "([BIB)V" } : Jvm.MethodName) jdk_42_method_147_code (4 : Nat) (Option.none : Option Jvm.ClassFile.FieldType), Jvm.Cond.code ({ cls := "java/lang/StringBuilder", name := "toString", desc := "()Ljava/lang/String;" } : Jvm.MethodName) jdk_67_method_42_code (1 : Nat) (Option.some (Jvm.ClassFile.FieldType.object "java/lang/String")), Jvm.Cond.code ({ cls := "java/lang/String", name := "<init>", desc := "(Ljava/lang/StringBuilder;)V" } : Jvm.MethodName) jdk_42_method_53_code (2 : Nat) (Option.none : Option Jvm.ClassFile.FieldType), Jvm.Cond.code ({ cls := "java/lang/String", name := "<init>", desc := "(Ljava/lang/AbstractStringBuilder;Ljava/lang/Void;)V" } : Jvm.MethodName) jdk_42_method_150_code (5 : Nat) (Option.none : Option Jvm.ClassFile.FieldType), Jvm.Cond.code ({ cls := "java/lang/AbstractStringBuilder", name := "getValue", desc := "()[B" } : Jvm.MethodName) jdk_68_method_64_code (1 : Nat) (Option.some (Jvm.ClassFile.FieldType.array Jvm.ClassFile.FieldType.byte)), Jvm.Cond.code ({ cls := "java/lang/StringBuilder", name := "length", desc := "()I" } : Jvm.MethodName) jdk_67_method_93_code (1 : Nat) (Option.some Jvm.ClassFile.FieldType.int), Jvm.Cond.code ({ cls := "java/lang/AbstractStringBuilder", name := "length", desc := "()I" } : Jvm.MethodName) jdk_68_method_6_code (1 : Nat) (Option.some Jvm.ClassFile.FieldType.int), Jvm.Cond.code ({ cls := "java/lang/AbstractStringBuilder", name := "isLatin1", desc := "()Z" } : Jvm.MethodName) jdk_68_method_68_code (1 : Nat) (Option.some Jvm.ClassFile.FieldType.boolean), Jvm.Cond.code ({ cls := "java/util/Arrays", name := "copyOfRange", desc := "([BII)[B" } : Jvm.MethodName) jdk_65_method_132_code (3 : Nat) (Option.some (Jvm.ClassFile.FieldType.array Jvm.ClassFile.FieldType.byte)), Jvm.Cond.code ({ cls := "java/util/Arrays", name := "copyOfRangeByte", desc := "([BII)[B" } : Jvm.MethodName) jdk_65_method_133_code (5 : Nat) (Option.some (Jvm.ClassFile.FieldType.array Jvm.ClassFile.FieldType.byte)), Jvm.Cond.code ({ cls := "java/util/Arrays", name := "checkLength", desc := "(II)V" } : Jvm.MethodName) jdk_65_method_131_code (2 : Nat) (Option.none : Option Jvm.ClassFile.FieldType), Jvm.Cond.code ({ cls := "java/lang/Math", name := "min", desc := "(II)I" } : Jvm.MethodName) jdk_29_method_69_code (2 : Nat) (Option.some Jvm.ClassFile.FieldType.int), Jvm.Cond.code ({ cls := "java/lang/String", name := "equals", desc := "(Ljava/lang/Object;)Z" } : Jvm.MethodName) jdk_42_method_66_code (3 : Nat) (Option.some Jvm.ClassFile.FieldType.boolean), Jvm.Cond.code ({ cls := "java/lang/StringLatin1", name := "equals", desc := "([B[B)Z" } : Jvm.MethodName) jdk_43_method_13_code (3 : Nat) (Option.some Jvm.ClassFile.FieldType.boolean)]
set_option maxRecDepth 65536 in
theorem codes_eq : words1.filter isCode = codes1 := rfl
theorem w_codes : ∀ c ∈ words1.filter isCode, c.before args0 about1 = true := by
  rw [codes_eq]
  intro c hc
  simp only [codes1, List.mem_cons, List.not_mem_nil, or_false] at hc
  rcases hc with rfl | rfl | rfl | rfl | rfl | rfl | rfl | rfl | rfl | rfl | rfl | rfl | rfl | rfl | rfl | rfl | rfl | rfl | rfl | rfl | rfl | rfl | rfl | rfl | rfl | rfl | rfl | rfl | rfl | rfl | rfl | rfl | rfl | rfl | rfl
  · exact w_c0
  · exact w_c1
  · exact w_c2
  · exact w_c3
  · exact w_c4
  · exact w_c5
  · exact w_c6
  · exact w_c7
  · exact w_c8
  · exact w_c9
  · exact w_c10
  · exact w_c11
  · exact w_c12
  · exact w_c13
  · exact w_c14
  · exact w_c15
  · exact w_c16
  · exact w_c17
  · exact w_c18
  · exact w_c19
  · exact w_c20
  · exact w_c21
  · exact w_c22
  · exact w_c23
  · exact w_c24
  · exact w_c25
  · exact w_c26
  · exact w_c27
  · exact w_c28
  · exact w_c29
  · exact w_c30
  · exact w_c31
  · exact w_c32
  · exact w_c33
  · exact w_c34
set_option maxRecDepth 65536 in
theorem w_t1 : (words1.take 24).all (fun c => isCode c || c.before args0 about1) = true := by decide +kernel
set_option maxRecDepth 65536 in
theorem w_t2 : ((words1.drop 24).take 24).all (fun c => isCode c || c.before args0 about1) = true := by decide +kernel
set_option maxRecDepth 65536 in
theorem w_t3 : (((words1.drop 24).drop 24).take 24).all (fun c => isCode c || c.before args0 about1) = true := by decide +kernel
set_option maxRecDepth 65536 in
theorem w_t4 : ((((words1.drop 24).drop 24).drop 24).take 24).all (fun c => isCode c || c.before args0 about1) = true := by decide +kernel
set_option maxRecDepth 65536 in
theorem w_t5 : (((((words1.drop 24).drop 24).drop 24).drop 24).take 24).all (fun c => isCode c || c.before args0 about1) = true := by decide +kernel
set_option maxRecDepth 65536 in
theorem w_t6 : ((((((words1.drop 24).drop 24).drop 24).drop 24).drop 24).take 24).all (fun c => isCode c || c.before args0 about1) = true := by decide +kernel
set_option maxRecDepth 65536 in
theorem w_t7 : (((((((words1.drop 24).drop 24).drop 24).drop 24).drop 24).drop 24).take 24).all (fun c => isCode c || c.before args0 about1) = true := by decide +kernel
set_option maxRecDepth 65536 in
theorem w_t8 : (((((((words1.drop 24).drop 24).drop 24).drop 24).drop 24).drop 24).drop 24).all (fun c => isCode c || c.before args0 about1) = true := by decide +kernel
theorem w_tables : (allAtoms (Jvm.Cond.code x code maxLocals ret :: tables_1)).before args0 about1 = true := by
  rw [allAtoms_all]
  show words1.all (fun c => c.before args0 about1) = true
  refine all_split ?_ w_codes
  rw [← List.take_append_drop 24 words1, List.all_append, w_t1, ← List.take_append_drop 24 (words1.drop 24), List.all_append, w_t2, ← List.take_append_drop 24 ((words1.drop 24).drop 24), List.all_append, w_t3, ← List.take_append_drop 24 (((words1.drop 24).drop 24).drop 24), List.all_append, w_t4, ← List.take_append_drop 24 ((((words1.drop 24).drop 24).drop 24).drop 24), List.all_append, w_t5, ← List.take_append_drop 24 (((((words1.drop 24).drop 24).drop 24).drop 24).drop 24), List.all_append, w_t6, ← List.take_append_drop 24 ((((((words1.drop 24).drop 24).drop 24).drop 24).drop 24).drop 24), List.all_append, w_t7, w_t8]
  rfl
set_option maxRecDepth 65536 in
theorem w_rest : rest_1_c.before args0 about1 = true := by decide +kernel
set_option maxRecDepth 65536 in
theorem w_case : (Jvm.Cond.and given_1 narrow_1).before args0 about1 = true := by decide +kernel
set_option maxRecDepth 65536 in
theorem w_consts : constsHeld consts_1 about1 := Jvm.Lit.constsHeldB_iff.mp (by decide +kernel)
theorem w_applies : (headSpec (Jvm.Cond.code x code maxLocals ret :: tables_1) room_1).applies x e0.platform about1 = true :=
  (Spec.applies_iff w_frames).mpr ⟨w_running, w_runnable, w_alone, w_named, w_hears, w_ripe, w_room, w_tables⟩
theorem atStart : AtStart classFile x code maxLocals ret World_1 tables_1 room_1 Calls_1 rest_1 Pre_1 launch0 p0 e0 about1 theMethod args0 below0 :=
  ⟨lists_1, trivial, launch0.admits_env _ _ _, launch0.least_env, fairChoices_fair.cas, fairChoices_fair.clock, w_frames, w_args, w_heap, w_applies, ⟨w_consts, trivial⟩, w_rest, w_case⟩
end start1
theorem witness_1 : WitnessClaimed_1 := ⟨start1.p0, start1.e0, start1.about1, start1.theMethod, start1.args0, start1.below0, start1.atStart⟩
end Jvm.Pilot.@@N@@
