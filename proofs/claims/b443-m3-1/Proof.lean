import JvmDerived
import JvmDerived.Pilot.@@N@@Statement
import JvmDerived.Pilot.@@N@@Code
set_option linter.unusedVariables false
set_option linter.unusedSimpArgs false
/- laws to paste: Road.backV (cut by pick.py; bodies as the Statement names them) -/
namespace Jvm.Pilot.@@N@@
namespace StrChars
open Jvm Sem ClassFile Op Lib Jvm.Stand Jvm.Free.XT Jvm.Free.ALB Jvm.Free.JM Jvm.Free
open Jvm.Lib.Cold (StaticIs)
/-- a char array whose places are chars -/
def Ch (a : Addr) (A : Cell) (U : State) : Prop := Arr .char a A U ∧ Typed .char A
theorem Ch.mv {a : Addr} {A : Cell} {U U' : State} (h : Ch a A U) (hal : U.vm.Alike U'.vm) (hh : U'.heap = U.heap) : Ch a A U' := ⟨h.1.mv hal hh, h.2⟩
theorem Ch.keep {a : Addr} {A : Cell} {U U' : State} (h : Ch a A U) (hal : U.vm.Alike U'.vm) (hk : U'.heap[a]? = some A) : Ch a A U' := ⟨h.1.keep hal hk, h.2⟩
/-- what place i of a char[]'s cell holds -/
def cv (A : Cell) (i : Nat) : Int32 := match A.slots[i]? with | some (.int x) => x | _ => 0
theorem Ch.get {a : Addr} {A : Cell} {U : State} (h : Ch a A U) {i : Nat} (hi : i < A.slots.size) : A.slots[i]? = some (.int (cv A i)) := by
  have e := Array.getElem?_eq_getElem hi
  have f := h.2 i _ e
  unfold cv; rw [e]
  generalize A.slots[i] = v at f
  cases v <;> simp [fits] at f ⊢
/-- the byte that i2b leaves of a char -/
def lo8 (x : Int32) : Int32 := x.toInt8.toInt32
theorem fits_lo8 (y : Int32) : fits .byte (.int (lo8 y)) = true := by
  have h1 := y.toInt8.le_toInt
  have h2 := y.toInt8.toInt_lt
  simp only [lo8, fits, Bool.and_eq_true, decide_eq_true_eq, Int32.le_iff_toInt_le, Int8.toInt_toInt32, show (-128 : Int32).toInt = -128 from by decide, show (127 : Int32).toInt = 127 from by decide]
  omega
/-- A' is A but that each place j of lo .. hi - 1 holds f j -/
def Laid (A A' : Cell) (lo hi : Nat) (f : Nat → Value) : Prop := A'.cls = A.cls ∧ A'.vm = A.vm ∧ A'.slots.size = A.slots.size ∧ ∀ i, A'.slots[i]? = if lo ≤ i ∧ i < hi then some (f i) else A.slots[i]?
theorem Laid.zero (A : Cell) (lo : Nat) (f : Nat → Value) : Laid A A lo (lo + 0) f := ⟨rfl, rfl, rfl, fun i => by rw [if_neg (by omega)]⟩
theorem Laid.step {A Ak : Cell} {lo k : Nat} {f : Nat → Value} {v : Value} (h : Laid A Ak lo k f) (hlo : lo ≤ k) (hk : k < Ak.slots.size) (hv : v = f k) : Laid A (Ak.setSlot k v) lo (k + 1) f := by
  refine ⟨h.1, h.2.1, by simpa [Cell.setSlot] using h.2.2.1, fun i => ?_⟩
  by_cases e : k = i
  · subst e; rw [Cell.slots_setSlot_self v hk, if_pos (by omega), hv]
  · rw [Cell.slots_setSlot_ne v e, h.2.2.2 i]
    by_cases q : lo ≤ i ∧ i < k
    · rw [if_pos q, if_pos (by omega)]
    · rw [if_neg q, if_neg (by omega)]
def U16 : String := "java/lang/StringUTF16"
namespace Cmp5
def yN : MethodName := ⟨"java/lang/StringUTF16", "compress", "([CI[BII)I"⟩
abbrev yB : ByteArray := jdk_52_method_21_code
theorem d0 : decode yB 0 = .ok (.iconst 0, 1) := by decide +kernel
theorem d1 : decode yB 1 = .ok (.istore 5, 2) := by decide +kernel
theorem d3 : decode yB 3 = .ok (.iload 5, 2) := by decide +kernel
theorem d5 : decode yB 5 = .ok (.iload 4, 2) := by decide +kernel
theorem d7 : decode yB 7 = .ok (.if_icmp (.ge) 37, 3) := by decide +kernel
theorem d10 : decode yB 10 = .ok (.aload_n 0, 1) := by decide +kernel
theorem d11 : decode yB 11 = .ok (.iload_n 1, 1) := by decide +kernel
theorem d12 : decode yB 12 = .ok (.caload, 1) := by decide +kernel
theorem d13 : decode yB 13 = .ok (.istore 6, 2) := by decide +kernel
theorem d15 : decode yB 15 = .ok (.iload 6, 2) := by decide +kernel
theorem d17 : decode yB 17 = .ok (.sipush 255, 3) := by decide +kernel
theorem d20 : decode yB 20 = .ok (.if_icmp (.le) 6, 3) := by decide +kernel
theorem d26 : decode yB 26 = .ok (.aload_n 2, 1) := by decide +kernel
theorem d27 : decode yB 27 = .ok (.iload_n 3, 1) := by decide +kernel
theorem d28 : decode yB 28 = .ok (.iload 6, 2) := by decide +kernel
theorem d30 : decode yB 30 = .ok (.i2b, 1) := by decide +kernel
theorem d31 : decode yB 31 = .ok (.bastore, 1) := by decide +kernel
theorem d32 : decode yB 32 = .ok (.iinc 1 1, 3) := by decide +kernel
theorem d35 : decode yB 35 = .ok (.iinc 3 1, 3) := by decide +kernel
theorem d38 : decode yB 38 = .ok (.iinc 5 1, 3) := by decide +kernel
theorem d41 : decode yB 41 = .ok (.goto (-38), 3) := by decide +kernel
theorem d44 : decode yB 44 = .ok (.iload 4, 2) := by decide +kernel
theorem d46 : decode yB 46 = .ok (.ireturn, 1) := by decide +kernel
def site : List Cond := []
def tab : Cond := tabOf yN yB 7 (some .int) site
def P (b : Addr) (A : Cell) (d : Addr) (B : Cell) (o q len : Nat) (args : Array Value) (s : State) : Prop := args = #[.ref b, .int (Int32.ofNat o), .ref d, .int (Int32.ofNat q), .int (Int32.ofNat len)] ∧ Ch b A s ∧ Arr .byte d B s ∧ b ≠ d ∧ o + len ≤ A.slots.size ∧ q + len ≤ B.slots.size ∧ ∀ i, i < len → ¬ 255 < cv A (o + i)
def E (b : Addr) (A : Cell) (d : Addr) (B : Cell) (o q len : Nat) (r : Option Value) (s u : State) : Prop := r = some (.int (Int32.ofNat len)) ∧ ∃ B', Put d B' s u ∧ Laid B B' q (q + len) (fun j => Value.int (lo8 (cv A (o + (j - q)))))
/-- no char of the range above 255: len; the places written hold each char's low byte -/
theorem law (l : Launch) (b : Addr) (A : Cell) (d : Addr) (B : Cell) (o q len : Nat) : Law l yN 5 5 0 0 yB 7 (some .int) site (P b A d B o q len) (E b A d B o q len) (copyLocs d q len) 0 0 := by
  refine Law.of_walk (plainFor_of_name (by decide +kernel)) (by decide +kernel) (by decide +kernel) (by decide) (fun _ _ h => by rw [h.1]; rfl) (fun _ U U' hal hh h => ⟨h.1, h.2.1.mv hal hh, h.2.2.1.mv hal hh, h.2.2.2⟩) (fun r U U' V V' h1 hal h2 h => ⟨h.1, h.2.elim fun B' q => ⟨B', q.1.mv h1 h2, q.2⟩⟩) ?_
  intro p e s m args below meth c s₁ X0 hexec hbytes hml hret hlk hnm hown hh0 W hP
  obtain ⟨rfl, hA, hB, hne, l1, l2, hp⟩ := hP
  have c1 : Steps p.tables e below (s₁.setTop (entryFrame m #[.ref b, .int (Int32.ofNat o), .ref d, .int (Int32.ofNat q), .int (Int32.ofNat len)] 7)) (s₁.setTop (mkF m 0 #[.val (.ref b), .val (.int (Int32.ofNat o)), .val (.ref d), .val (.int (Int32.ofNat q)), .val (.int (Int32.ofNat len)), .unset, .unset] [])) := entry rfl
  have hA0 := hA.1.mv X0.warmed.alike hh0
  have hB0 := hB.mv X0.warmed.alike hh0
  have a31 := hA.1.2.2.2
  have c2 : Steps p.tables e below (s₁.setTop (entryFrame m #[.ref b, .int (Int32.ofNat o), .ref d, .int (Int32.ofNat q), .int (Int32.ofNat len)] 7)) (s₁.setTop (mkF m 3 #[.val (.ref b), .val (.int (Int32.ofNat o)), .val (.ref d), .val (.int (Int32.ofNat q)), .val (.int (Int32.ofNat len)), .val (.int 0), .unset] [])) := c1.trans (by
    refine iconstV X0.here hexec rfl 0 (hb hbytes d0) (by decide) ?_
    refine XS.istore X0.here hexec rfl (hb hbytes d1) rfl rfl ?_
    exact Steps.refl _)
  have loop : ∀ (r i : Nat), i + r = len → ∀ (z : Slot), (z = .unset ∨ ∃ w, z = .val w ∧ w.category = 1) → ∀ (Tl : State) (Bk : Cell), Stand p l e { frames := 0, locals := 0, cells := 0, slots := 0 } s m #[.ref b, .int (Int32.ofNat o), .ref d, .int (Int32.ofNat q), .int (Int32.ofNat len)] below meth c Tl ([] ++ copyLocs d q i) 0 0 → Put d Bk s₁ Tl → Laid B Bk q (q + i) (fun j => Value.int (lo8 (cv A (o + (j - q))))) →
      Steps p.tables e below (s₁.setTop (entryFrame m #[.ref b, .int (Int32.ofNat o), .ref d, .int (Int32.ofNat q), .int (Int32.ofNat len)] 7)) (Tl.setTop (mkF m 3 #[.val (.ref b), .val (.int (Int32.ofNat (o + i))), .val (.ref d), .val (.int (Int32.ofNat (q + i))), .val (.int (Int32.ofNat len)), .val (.int (Int32.ofNat i)), z] [])) → ∃ (T' : State) (B' : Cell) (z' : Slot), Stand p l e { frames := 0, locals := 0, cells := 0, slots := 0 } s m #[.ref b, .int (Int32.ofNat o), .ref d, .int (Int32.ofNat q), .int (Int32.ofNat len)] below meth c T' ([] ++ copyLocs d q len) 0 0 ∧ Put d B' s₁ T' ∧ Laid B B' q (q + len) (fun j => Value.int (lo8 (cv A (o + (j - q))))) ∧
      Steps p.tables e below (s₁.setTop (entryFrame m #[.ref b, .int (Int32.ofNat o), .ref d, .int (Int32.ofNat q), .int (Int32.ofNat len)] 7)) (T'.setTop (mkF m 3 #[.val (.ref b), .val (.int (Int32.ofNat (o + len))), .val (.ref d), .val (.int (Int32.ofNat (q + len))), .val (.int (Int32.ofNat len)), .val (.int (Int32.ofNat len)), z'] [])) := by
    intro r
    induction r with
    | zero =>
      intro i hi z hz Tl Bk Xl pl fl cl
      have hil : i = len := by omega
      rw [hil] at Xl fl cl
      exact ⟨Tl, Bk, z, Xl, pl, fl, cl⟩
    | succ r ih =>
      intro i hi z hz Tl Bk Xl pl fl cl
      have all := X0.warmed.alike.symm.trans Xl.warmed.alike
      have hAl := hA0.keep all (pl.other hne hA0.1)
      have hBk := hB0.like all pl.1 fl.1 fl.2.1 fl.2.2.1
      have hlt : q + i < Bk.slots.size := by rw [fl.2.2.1]; omega
      have c3 : Steps p.tables e below (s₁.setTop (entryFrame m #[.ref b, .int (Int32.ofNat o), .ref d, .int (Int32.ofNat q), .int (Int32.ofNat len)] 7)) (Tl.setTop (mkF m 12 #[.val (.ref b), .val (.int (Int32.ofNat (o + i))), .val (.ref d), .val (.int (Int32.ofNat (q + i))), .val (.int (Int32.ofNat len)), .val (.int (Int32.ofNat i)), z] [.int (Int32.ofNat (o + i)), .ref b])) := cl.trans (by
        refine XS.iload Xl.here hexec rfl (hb hbytes d3) rfl ?_
        refine XS.iload Xl.here hexec rfl (hb hbytes d5) rfl ?_
        refine XS.icmpNo Xl.here hexec rfl (hb hbytes d7) rfl (ii_ge_f (lt32 (by omega) (by omega))) ?_
        refine XS.aloadN Xl.here hexec rfl (hb hbytes d10) rfl rfl ?_
        refine XS.iloadN Xl.here hexec rfl (hb hbytes d11) rfl ?_
        exact Steps.refl _)
      have c4 : Steps p.tables e below (s₁.setTop (entryFrame m #[.ref b, .int (Int32.ofNat o), .ref d, .int (Int32.ofNat q), .int (Int32.ofNat len)] 7)) (Tl.setTop (mkF m 13 #[.val (.ref b), .val (.int (Int32.ofNat (o + i))), .val (.ref d), .val (.int (Int32.ofNat (q + i))), .val (.int (Int32.ofNat len)), .val (.int (Int32.ofNat i)), z] [.int (cv A (o + i))])) := c3.trans (by
        refine Xl.aget hexec hAl rfl (hA.get (i := o + i) (by omega)) rfl rfl (hb hbytes d12) ?_
        exact Steps.refl _)
      have c5 : Steps p.tables e below (s₁.setTop (entryFrame m #[.ref b, .int (Int32.ofNat o), .ref d, .int (Int32.ofNat q), .int (Int32.ofNat len)] 7)) (Tl.setTop (mkF m 15 #[.val (.ref b), .val (.int (Int32.ofNat (o + i))), .val (.ref d), .val (.int (Int32.ofNat (q + i))), .val (.int (Int32.ofNat len)), .val (.int (Int32.ofNat i)), .val (.int (cv A (o + i)))] [])) := c4.trans (by
        refine XS.istoreS Xl.here hexec rfl (hb hbytes d13) rfl rfl hz ?_
        exact Steps.refl _)
      have c6 : Steps p.tables e below (s₁.setTop (entryFrame m #[.ref b, .int (Int32.ofNat o), .ref d, .int (Int32.ofNat q), .int (Int32.ofNat len)] 7)) (Tl.setTop (mkF m 31 #[.val (.ref b), .val (.int (Int32.ofNat (o + i))), .val (.ref d), .val (.int (Int32.ofNat (q + i))), .val (.int (Int32.ofNat len)), .val (.int (Int32.ofNat i)), .val (.int (cv A (o + i)))] [.int (lo8 (cv A (o + i))), .int (Int32.ofNat (q + i)), .ref d])) := c5.trans (by
        refine XS.iload Xl.here hexec rfl (hb hbytes d15) rfl ?_
        refine sipushV Xl.here hexec rfl 255 (hb hbytes d17) (by decide) ?_
        refine XS.icmpYes Xl.here hexec rfl (pc0 := 20) rfl (hb hbytes d20) rfl (ii_le_t (hp i (by omega))) (by decide) rfl ?_
        refine XS.aloadN Xl.here hexec rfl (hb hbytes d26) rfl rfl ?_
        refine XS.iloadN Xl.here hexec rfl (hb hbytes d27) rfl ?_
        refine XS.iload Xl.here hexec rfl (hb hbytes d28) rfl ?_
        refine i2b Xl.here hexec rfl (hb hbytes d30) rfl ?_
        exact Steps.refl _)
      obtain ⟨T7, X7, p7, st7⟩ := Xl.aput hexec hBk rfl hlt rfl (fits_lo8 (cv A (o + i))) (g := (mkF m 31 #[.val (.ref b), .val (.int (Int32.ofNat (o + i))), .val (.ref d), .val (.int (Int32.ofNat (q + i))), .val (.int (Int32.ofNat len)), .val (.int (Int32.ofNat i)), .val (.int (cv A (o + i)))] [.int (lo8 (cv A (o + i))), .int (Int32.ofNat (q + i)), .ref d])) rfl (rest := []) rfl (hb hbytes d31)
      have c8 : Steps p.tables e below (s₁.setTop (entryFrame m #[.ref b, .int (Int32.ofNat o), .ref d, .int (Int32.ofNat q), .int (Int32.ofNat len)] 7)) (T7.setTop (mkF m 32 #[.val (.ref b), .val (.int (Int32.ofNat (o + i))), .val (.ref d), .val (.int (Int32.ofNat (q + i))), .val (.int (Int32.ofNat len)), .val (.int (Int32.ofNat i)), .val (.int (cv A (o + i)))] [])) := c6.trans (st7 _ (Steps.refl _))
      have c9 : Steps p.tables e below (s₁.setTop (entryFrame m #[.ref b, .int (Int32.ofNat o), .ref d, .int (Int32.ofNat q), .int (Int32.ofNat len)] 7)) (T7.setTop (mkF m 3 #[.val (.ref b), .val (.int (Int32.ofNat (o + i) + 1)), .val (.ref d), .val (.int (Int32.ofNat (q + i) + 1)), .val (.int (Int32.ofNat len)), .val (.int (Int32.ofNat i + 1)), .val (.int (cv A (o + i)))] [])) := c8.trans (by
        refine iincV X7.here hexec rfl 1 (hb hbytes d32) (by decide) rfl rfl ?_
        refine iincV X7.here hexec rfl 1 (hb hbytes d35) (by decide) rfl rfl ?_
        refine iincV X7.here hexec rfl 1 (hb hbytes d38) (by decide) rfl rfl ?_
        refine XS.goto X7.here hexec rfl (pc0 := 41) rfl (hb hbytes d41) (by decide) rfl ?_
        exact Steps.refl _)
      have c10 : Steps p.tables e below (s₁.setTop (entryFrame m #[.ref b, .int (Int32.ofNat o), .ref d, .int (Int32.ofNat q), .int (Int32.ofNat len)] 7)) (T7.setTop (mkF m 3 #[.val (.ref b), .val (.int (Int32.ofNat (o + (i + 1)))), .val (.ref d), .val (.int (Int32.ofNat (q + (i + 1)))), .val (.int (Int32.ofNat len)), .val (.int (Int32.ofNat (i + 1))), .val (.int (cv A (o + i)))] [])) := by
        have := c9
        rw [succ32, succ32, succ32] at this
        exact this
      exact ih (i + 1) (by omega) _ (Or.inr ⟨_, rfl, rfl⟩) T7 _ (by rw [copyLocs_step, ← List.append_assoc]; exact X7) (pl.trans p7) (fl.step (by omega) hlt (by simp)) c10
  obtain ⟨T9, B9, z9, X9, p9, f9, g9⟩ := loop len 0 (by omega) .unset (Or.inl rfl) s₁ B (by simpa [copyLocs] using X0) ⟨hB0.1, fun _ _ => rfl, rfl⟩ (Laid.zero _ _ _) c2
  have c11 : Steps p.tables e below (s₁.setTop (entryFrame m #[.ref b, .int (Int32.ofNat o), .ref d, .int (Int32.ofNat q), .int (Int32.ofNat len)] 7)) (T9.setTop (mkF m 46 #[.val (.ref b), .val (.int (Int32.ofNat (o + len))), .val (.ref d), .val (.int (Int32.ofNat (q + len))), .val (.int (Int32.ofNat len)), .val (.int (Int32.ofNat len)), z9] [.int (Int32.ofNat len)])) := g9.trans (by
    refine XS.iload X9.here hexec rfl (hb hbytes d3) rfl ?_
    refine XS.iload X9.here hexec rfl (hb hbytes d5) rfl ?_
    refine XS.icmpYes X9.here hexec rfl (pc0 := 7) rfl (hb hbytes d7) rfl (ii_ge_t (nlt32 (by omega) (Nat.le_refl _))) (by decide) rfl ?_
    refine XS.iload X9.here hexec rfl (hb hbytes d44) rfl ?_
    exact Steps.refl _)
  exact ⟨T9, some (.int (Int32.ofNat len)), _, _, _, X9, by simp, rfl, rfl, (fun h => by cases h), ⟨rfl, B9, p9.from hh0, f9⟩, fun fs hl => c11.trans (X9.ireturnOut hexec hret rfl (Or.inl rfl) (hb hbytes d46) hl)⟩
end Cmp5
namespace Cmp3
def yN : MethodName := ⟨"java/lang/StringUTF16", "compress", "([CII)[B"⟩
abbrev yB : ByteArray := jdk_52_method_16_code
theorem d0 : decode yB 0 = .ok (.iload_n 2, 1) := by decide +kernel
theorem d1 : decode yB 1 = .ok (.newarray .byte, 2) := by decide +kernel
theorem d3 : decode yB 3 = .ok (.astore_n 3, 1) := by decide +kernel
theorem d4 : decode yB 4 = .ok (.aload_n 0, 1) := by decide +kernel
theorem d5 : decode yB 5 = .ok (.iload_n 1, 1) := by decide +kernel
theorem d6 : decode yB 6 = .ok (.aload_n 3, 1) := by decide +kernel
theorem d7 : decode yB 7 = .ok (.iconst 0, 1) := by decide +kernel
theorem d8 : decode yB 8 = .ok (.iload_n 2, 1) := by decide +kernel
theorem d9 : decode yB 9 = .ok (.invokestatic 115, 3) := by decide +kernel
theorem d12 : decode yB 12 = .ok (.istore 4, 2) := by decide +kernel
theorem d14 : decode yB 14 = .ok (.iload 4, 2) := by decide +kernel
theorem d16 : decode yB 16 = .ok (.iload_n 2, 1) := by decide +kernel
theorem d17 : decode yB 17 = .ok (.if_icmp (.eq) 40, 3) := by decide +kernel
theorem d57 : decode yB 57 = .ok (.aload_n 3, 1) := by decide +kernel
theorem d58 : decode yB 58 = .ok (.areturn, 1) := by decide +kernel
def site : List Cond := [.arrayClass .byte, Cmp5.tab] ++ staticW U16 115 Cmp5.yN
def tab : Cond := tabOf yN yB 6 (some (.array .byte)) site
def P (b : Addr) (A : Cell) (o len : Nat) (args : Array Value) (s : State) : Prop := args = #[.ref b, .int (Int32.ofNat o), .int (Int32.ofNat len)] ∧ Ch b A s ∧ o + len ≤ A.slots.size ∧ len ≤ 536870912 ∧ ∀ i, i < len → ¬ 255 < cv A (o + i)
def E (b : Addr) (A : Cell) (o len : Nat) (r : Option Value) (s u : State) : Prop := NewArr .byte "[B" len (fun j => .int (lo8 (cv A (o + j)))) r s u ∧ u.heap.size = s.heap.size + 1
/-- no char of the range above 255: a new byte[] of their low bytes -/
theorem law (l : Launch) (b : Addr) (A : Cell) (o len : Nat) : Law l yN 3 3 1 18 yB 6 (some (.array .byte)) site (P b A o len) (E b A o len) [] 1 len := by
  refine Law.of_walk (plainFor_of_name (by decide +kernel)) (by decide +kernel) (by decide +kernel) (by decide) (fun _ _ h => by rw [h.1]; rfl) (fun _ U U' hal hh h => ⟨h.1, h.2.1.mv hal hh, h.2.2⟩) (fun r U U' V V' h1 hal h2 h => ⟨NewArr.mv r U U' V V' h1 hal h2 h.1, by rw [h1, h2]; exact h.2⟩) ?_
  intro p e s m args below meth c s₁ X0 hexec hbytes hml hret hlk hnm hown hh0 W hP
  obtain ⟨rfl, hA, l1, l2, hp⟩ := hP
  have a31 := hA.1.2.2.2
  have c1 : Steps p.tables e below (s₁.setTop (entryFrame m #[.ref b, .int (Int32.ofNat o), .int (Int32.ofNat len)] 6)) (s₁.setTop (mkF m 0 #[.val (.ref b), .val (.int (Int32.ofNat o)), .val (.int (Int32.ofNat len)), .unset, .unset, .unset] [])) := entry rfl
  have c2 : Steps p.tables e below (s₁.setTop (entryFrame m #[.ref b, .int (Int32.ofNat o), .int (Int32.ofNat len)] 6)) (s₁.setTop (mkF m 1 #[.val (.ref b), .val (.int (Int32.ofNat o)), .val (.int (Int32.ofNat len)), .unset, .unset, .unset] [.int (Int32.ofNat len)])) := c1.trans (by
    refine XS.iloadN X0.here hexec rfl (hb hbytes d0) rfl ?_
    exact Steps.refl _)
  obtain ⟨T3, B3, X3, ba3, bs3, bv3, bh3, bf3, st3⟩ := X0.anew hexec (atype := .byte) (wk W (.arrayClass .byte)) rfl (by show len * 1 ≤ _; omega) (by omega) (g := (mkF m 1 #[.val (.ref b), .val (.int (Int32.ofNat o)), .val (.int (Int32.ofNat len)), .unset, .unset, .unset] [.int (Int32.ofNat len)])) rfl (hb hbytes d1) (rest := []) rfl (Nat.le_refl _) (by show 0 + len ≤ len; omega)
  rw [hh0] at ba3 st3
  have kp3 : XT.Kept s T3 := (XT.Kept.of_eq hh0).push bh3
  have hA3 := hA.keep X3.warmed.alike (kp3 _ _ hA.1.1)
  have hne : b ≠ s.heap.size := hA.1.ne
  have c4 : Steps p.tables e below (s₁.setTop (entryFrame m #[.ref b, .int (Int32.ofNat o), .int (Int32.ofNat len)] 6)) (T3.setTop (mkF m 3 #[.val (.ref b), .val (.int (Int32.ofNat o)), .val (.int (Int32.ofNat len)), .unset, .unset, .unset] [.ref s.heap.size])) := c2.trans (st3 _ (Steps.refl _))
  have c5 : Steps p.tables e below (s₁.setTop (entryFrame m #[.ref b, .int (Int32.ofNat o), .int (Int32.ofNat len)] 6)) (T3.setTop (mkF m 9 #[.val (.ref b), .val (.int (Int32.ofNat o)), .val (.int (Int32.ofNat len)), .val (.ref s.heap.size), .unset, .unset] [.int (Int32.ofNat len), .int 0, .ref s.heap.size, .int (Int32.ofNat o), .ref b])) := c4.trans (by
    refine XS.astoreN X3.here hexec rfl (hb hbytes d3) rfl rfl rfl ?_
    refine XS.aloadN X3.here hexec rfl (hb hbytes d4) rfl rfl ?_
    refine XS.iloadN X3.here hexec rfl (hb hbytes d5) rfl ?_
    refine XS.aloadN X3.here hexec rfl (hb hbytes d6) rfl rfl ?_
    refine iconstV X3.here hexec rfl 0 (hb hbytes d7) (by decide) ?_
    refine XS.iloadN X3.here hexec rfl (hb hbytes d8) rfl ?_
    exact Steps.refl _)
  obtain ⟨v6, T6, X6, E6, g6⟩ := X3.callS hexec (Cmp5.law l b A s.heap.size B3 o 0 len) hown (wks W (staticW U16 115 Cmp5.yN)) (wk W Cmp5.tab) (W := 0) (Nat.le_of_ble_eq_true rfl) (Nat.le_of_ble_eq_true rfl) (Nat.le_refl _) (by show 0 + len + 0 ≤ len; omega) (g := (mkF m 9 #[.val (.ref b), .val (.int (Int32.ofNat o)), .val (.int (Int32.ofNat len)), .val (.ref s.heap.size), .unset, .unset] [.int (Int32.ofNat len), .int (Int32.ofNat 0), .ref s.heap.size, .int (Int32.ofNat o), .ref b])) rfl (by rw [hml]; rfl) c5 (argsL := [.ref b, .int (Int32.ofNat o), .ref s.heap.size, .int (Int32.ofNat 0), .int (Int32.ofNat len)]) (rest := []) rfl rfl (by show 2 * 0 + 0 ≤ _; decide) (hb hbytes d9) (⟨rfl, hA3, ba3, hne, l1, by rw [bs3]; simp, hp⟩)
  obtain ⟨rfl, B6, p6, f6⟩ := E6
  have c7 : Steps p.tables e below (s₁.setTop (entryFrame m #[.ref b, .int (Int32.ofNat o), .int (Int32.ofNat len)] 6)) (T6.setTop (mkF m 12 #[.val (.ref b), .val (.int (Int32.ofNat o)), .val (.int (Int32.ofNat len)), .val (.ref s.heap.size), .unset, .unset] [.int (Int32.ofNat len)])) := g6
  have c8 : Steps p.tables e below (s₁.setTop (entryFrame m #[.ref b, .int (Int32.ofNat o), .int (Int32.ofNat len)] 6)) (T6.setTop (mkF m 58 #[.val (.ref b), .val (.int (Int32.ofNat o)), .val (.int (Int32.ofNat len)), .val (.ref s.heap.size), .val (.int (Int32.ofNat len)), .unset] [.ref s.heap.size])) := c7.trans (by
    refine XS.istore X6.here hexec rfl (hb hbytes d12) rfl rfl ?_
    refine XS.iload X6.here hexec rfl (hb hbytes d14) rfl ?_
    refine XS.iloadN X6.here hexec rfl (hb hbytes d16) rfl ?_
    refine XS.icmpYes X6.here hexec rfl (pc0 := 17) rfl (hb hbytes d17) rfl (ii_eq_t rfl) (by decide) rfl ?_
    refine XS.aloadN X6.here hexec rfl (hb hbytes d57) rfl rfl ?_
    exact Steps.refl _)
  have X8 := X6.wide (L' := []) (cells' := 1) (slots' := len) (fun x hx hlt => by
    simp only [List.nil_append, copyLocs, List.mem_map, List.mem_range] at hx
    obtain ⟨i, -, rfl⟩ := hx
    exact absurd hlt (Nat.lt_irrefl _)) (Nat.le_refl _) (by omega)
  exact ⟨T6, some (.ref s.heap.size), _, _, _, X8, rfl, rfl, rfl, (fun h => by cases h), ⟨⟨rfl, B6, ba3.like (X3.warmed.alike.symm.trans X6.warmed.alike) p6.1 f6.1 f6.2.1 f6.2.2.1, f6.2.1.trans bv3, by rw [X6.warmed.alike.findClass, f6.1]; exact bf3, by rw [f6.2.2.1, bs3]; simp, fun j hj => by rw [f6.2.2.2 j, if_pos (by omega)]; rfl, kp3.put p6 (Nat.le_refl _)⟩, by rw [p6.2.2, bh3, hh0]; simp⟩, fun fs hl => c8.trans (X8.areturnOut hexec rfl hret rfl (hb hbytes d58) hl)⟩
end Cmp3
namespace CodL
def yN : MethodName := ⟨"java/lang/StringUTF16", "coderFromArrayLen", "([BI)B"⟩
abbrev yB : ByteArray := jdk_52_method_15_code
theorem d0 : decode yB 0 = .ok (.iload_n 1, 1) := by decide +kernel
theorem d1 : decode yB 1 = .ok (.aload_n 0, 1) := by decide +kernel
theorem d2 : decode yB 2 = .ok (.arraylength, 1) := by decide +kernel
theorem d3 : decode yB 3 = .ok (.isub, 1) := by decide +kernel
theorem d4 : decode yB 4 = .ok (.bipush 31, 2) := by decide +kernel
theorem d6 : decode yB 6 = .ok (.iushr, 1) := by decide +kernel
theorem d7 : decode yB 7 = .ok (.i2b, 1) := by decide +kernel
theorem d8 : decode yB 8 = .ok (.ireturn, 1) := by decide +kernel
def site : List Cond := []
def tab : Cond := tabOf yN yB 2 (some .byte) site
def P (d : Addr) (B : Cell) (args : Array Value) (s : State) : Prop := args = #[.ref d, .int (Int32.ofNat B.slots.size)] ∧ Arr .byte d B s
def E (r : Option Value) (s u : State) : Prop := XT.PureE (some (.int 0)) r s u
/-- an array as long as the number of chars: LATIN1 -/
theorem law (l : Launch) (d : Addr) (B : Cell) : Law l yN 2 2 0 0 yB 2 (some .byte) site (P d B) E [] 0 0 := by
  refine Law.of_walk (plainFor_of_name (by decide +kernel)) (by decide +kernel) (by decide +kernel) (by decide) (fun _ _ h => by rw [h.1]; rfl) (fun _ U U' hal hh h => ⟨h.1, h.2.mv hal hh⟩) (fun r U U' V V' h1 hal h2 h => XT.PureE.mv r U U' V V' h1 hal h2 h) ?_
  intro p e s m args below meth c s₁ X0 hexec hbytes hml hret hlk hnm hown hh0 W hP
  obtain ⟨rfl, hB⟩ := hP
  have hB0 := hB.mv X0.warmed.alike hh0
  have c1 : Steps p.tables e below (s₁.setTop (entryFrame m #[.ref d, .int (Int32.ofNat B.slots.size)] 2)) (s₁.setTop (mkF m 0 #[.val (.ref d), .val (.int (Int32.ofNat B.slots.size))] [])) := entry rfl
  have c2 : Steps p.tables e below (s₁.setTop (entryFrame m #[.ref d, .int (Int32.ofNat B.slots.size)] 2)) (s₁.setTop (mkF m 2 #[.val (.ref d), .val (.int (Int32.ofNat B.slots.size))] [.ref d, .int (Int32.ofNat B.slots.size)])) := c1.trans (by
    refine XS.iloadN X0.here hexec rfl (hb hbytes d0) rfl ?_
    refine XS.aloadN X0.here hexec rfl (hb hbytes d1) rfl rfl ?_
    exact Steps.refl _)
  have c3 : Steps p.tables e below (s₁.setTop (entryFrame m #[.ref d, .int (Int32.ofNat B.slots.size)] 2)) (s₁.setTop (mkF m 8 #[.val (.ref d), .val (.int (Int32.ofNat B.slots.size))] [.int (lo8 (ushr (Int32.ofNat B.slots.size - Int32.ofNat B.slots.size) 31))])) := c2.trans (by
    refine X0.alen hexec hB0 rfl rfl (hb hbytes d2) ?_
    refine XS.isub X0.here hexec rfl (hb hbytes d3) rfl ?_
    refine bipushV X0.here hexec rfl 31 (hb hbytes d4) (by decide) ?_
    refine iushr X0.here hexec rfl (hb hbytes d6) rfl ?_
    refine i2b X0.here hexec rfl (hb hbytes d7) rfl ?_
    exact Steps.refl _)
  have e0 : lo8 (ushr (Int32.ofNat B.slots.size - Int32.ofNat B.slots.size) 31) = 0 := by rw [Int32.sub_self]; decide
  rw [e0] at c3
  exact ⟨s₁, some (.int 0), _, _, _, X0, rfl, rfl, rfl, (fun h => by cases h), ⟨rfl, hh0⟩, fun fs hl => c3.trans (X0.ireturnOut hexec hret rfl (Or.inr (Or.inr (Or.inl rfl))) (hb hbytes d8) hl)⟩
end CodL
/-- the String at a is Latin-1 over a new byte[] (the heap's one new cell): the low bytes of the len chars of A from o on; every cell but a is kept -/
def Got (a : Addr) (D : Cell) (fV fC : Field) (A : Cell) (o len : Nat) (r : Option Value) (s u : State) : Prop := r = none ∧ ∃ D' V : Cell, Blank "java/lang/String" a D' u ∧ Same D D' [fV.slot, fC.slot] ∧ D'.slots[fV.slot]? = some (.ref s.heap.size) ∧ D'.slots[fC.slot]? = some (.int 0) ∧ Arr .byte s.heap.size V u ∧ V.vm = .none ∧ u.vm.findClass "[B" = some V.cls ∧ V.slots.size = len ∧ (∀ j, j < len → V.slots[j]? = some (.int (lo8 (cv A (o + j))))) ∧ (∀ (y : Addr) (c : Cell), y ≠ a → s.heap[y]? = some c → u.heap[y]? = some c) ∧ u.heap.size = s.heap.size + 1
theorem Got.mv {a : Addr} {D A : Cell} {fV fC : Field} {o len : Nat} : ∀ r (U U' V V' : State), U'.heap = U.heap → V.vm.Alike V'.vm → V'.heap = V.heap → Got a D fV fC A o len r U V → Got a D fV fC A o len r U' V' :=
  fun r U U' V V' h1 hal h2 ⟨e0, D', X, a1, a2, a3, a4, a5, a6, a7, a8, a9, a10, a11⟩ => ⟨e0, D', X, a1.mv hal h2, a2, by rw [h1]; exact a3, a4, by rw [h1]; exact a5.mv hal h2, a6, by rw [hal.findClass]; exact a7, a8, a9, by rw [h1, h2]; exact a10, by rw [h1, h2]; exact a11⟩
namespace New4
def yN : MethodName := ⟨"java/lang/String", "<init>", "([CIILjava/lang/Void;)V"⟩
abbrev yB : ByteArray := jdk_42_method_149_code
theorem d0 : decode yB 0 = .ok (.aload_n 0, 1) := by decide +kernel
theorem d1 : decode yB 1 = .ok (.invokespecial 1, 3) := by decide +kernel
theorem d4 : decode yB 4 = .ok (.iload_n 3, 1) := by decide +kernel
theorem d5 : decode yB 5 = .ok (.ifCond (.ne) 22, 3) := by decide +kernel
theorem d27 : decode yB 27 = .ok (.getstatic 38, 3) := by decide +kernel
theorem d30 : decode yB 30 = .ok (.ifCond (.eq) 28, 3) := by decide +kernel
theorem d33 : decode yB 33 = .ok (.aload_n 1, 1) := by decide +kernel
theorem d34 : decode yB 34 = .ok (.iload_n 2, 1) := by decide +kernel
theorem d35 : decode yB 35 = .ok (.iload_n 3, 1) := by decide +kernel
theorem d36 : decode yB 36 = .ok (.invokestatic 177, 3) := by decide +kernel
theorem d39 : decode yB 39 = .ok (.astore 5, 2) := by decide +kernel
theorem d41 : decode yB 41 = .ok (.aload_n 0, 1) := by decide +kernel
theorem d42 : decode yB 42 = .ok (.aload 5, 2) := by decide +kernel
theorem d44 : decode yB 44 = .ok (.iload_n 3, 1) := by decide +kernel
theorem d45 : decode yB 45 = .ok (.invokestatic 47, 3) := by decide +kernel
theorem d48 : decode yB 48 = .ok (.putfield 15, 3) := by decide +kernel
theorem d51 : decode yB 51 = .ok (.aload_n 0, 1) := by decide +kernel
theorem d52 : decode yB 52 = .ok (.aload 5, 2) := by decide +kernel
theorem d54 : decode yB 54 = .ok (.putfield 9, 3) := by decide +kernel
theorem d57 : decode yB 57 = .ok (.return_, 1) := by decide +kernel
def site : List Cond := [.fieldLink "java/lang/String" 38 "java/lang/String" "COMPACT_STRINGS" "Z", Cmp3.tab, CodL.tab, .laysFinal "java/lang/String" "java/lang/String" "value" "[B", .fieldLink "java/lang/String" 9 "java/lang/String" "value" "[B", .laysFinal "java/lang/String" "java/lang/String" "coder" "B", .fieldLink "java/lang/String" 15 "java/lang/String" "coder" "B"] ++ objW "java/lang/String" 1 ++ staticW "java/lang/String" 177 Cmp3.yN ++ staticW "java/lang/String" 47 CodL.yN
def tab : Cond := tabOf yN yB 6 none site
def P (a : Addr) (D : Cell) (fV fC : Field) (b : Addr) (A : Cell) (z : Int32) (o len : Nat) (args : Array Value) (s : State) : Prop := args = #[.ref a, .ref b, .int (Int32.ofNat o), .int (Int32.ofNat len), .null] ∧ Blank "java/lang/String" a D s ∧ Found "java/lang/String" "value" "[B" fV s ∧ Found "java/lang/String" "coder" "B" fC s ∧ Ch b A s ∧ StaticIs s "java/lang/String" "COMPACT_STRINGS" "Z" (.int z) ∧ ¬ z = 0 ∧ 0 < len ∧ o + len ≤ A.slots.size ∧ len ≤ 536870912 ∧ ∀ i, i < len → ¬ 255 < cv A (o + i)
def E (a : Addr) (D : Cell) (fV fC : Field) (A : Cell) (o len : Nat) (r : Option Value) (s u : State) : Prop := Got a D fV fC A o len r s u
/-- len > 0, no char of the range above 255: a Latin-1 String of their low bytes -/
theorem law (l : Launch) (a : Addr) (D : Cell) (fV fC : Field) (b : Addr) (A : Cell) (z : Int32) (o len : Nat) : Law l yN 5 4 2 35 yB 6 none site (P a D fV fC b A z o len) (E a D fV fC A o len) [⟨a, fC.slot⟩, ⟨a, fV.slot⟩] 1 len := by
  refine Law.of_walk (plainFor_of_name (by decide +kernel)) (by decide +kernel) (by decide +kernel) (by decide) (fun _ _ h => by rw [h.1]; rfl) (fun _ U U' hal hh h => ⟨h.1, h.2.1.mv hal hh, h.2.2.1.al hal, h.2.2.2.1.al hal, h.2.2.2.2.1.mv hal hh, h.2.2.2.2.2.1.there hal hh, h.2.2.2.2.2.2⟩) (fun r U U' V V' h1 hal h2 h => Got.mv r U U' V V' h1 hal h2 h) ?_
  intro p e s m args below meth c s₁ X0 hexec hbytes hml hret hlk hnm hown hh0 W hP
  obtain ⟨rfl, hB, f1, f2, hA, s1, hz, l0, l1, l2, hp⟩ := hP
  have a31 := hA.1.2.2.2
  have c1 : Steps p.tables e below (s₁.setTop (entryFrame m #[.ref a, .ref b, .int (Int32.ofNat o), .int (Int32.ofNat len), .null] 6)) (s₁.setTop (mkF m 0 #[.val (.ref a), .val (.ref b), .val (.int (Int32.ofNat o)), .val (.int (Int32.ofNat len)), .val .null, .unset] [])) := entry rfl
  have c2 : Steps p.tables e below (s₁.setTop (entryFrame m #[.ref a, .ref b, .int (Int32.ofNat o), .int (Int32.ofNat len), .null] 6)) (s₁.setTop (mkF m 1 #[.val (.ref a), .val (.ref b), .val (.int (Int32.ofNat o)), .val (.int (Int32.ofNat len)), .val .null, .unset] [.ref a])) := c1.trans (by
    refine XS.aloadN X0.here hexec rfl (hb hbytes d0) rfl rfl ?_
    exact Steps.refl _)
  obtain ⟨T3, X3, q3, st3⟩ := X0.oinit hexec hown (wks W (objW "java/lang/String" 1)) (g := (mkF m 1 #[.val (.ref a), .val (.ref b), .val (.int (Int32.ofNat o)), .val (.int (Int32.ofNat len)), .val .null, .unset] [.ref a])) rfl (by rw [hml]; rfl) (rest := []) rfl (hb hbytes d1) (W := 0) (by show 2 * 0 + 0 ≤ _; decide) (Nat.le_of_ble_eq_true rfl) (Nat.le_of_ble_eq_true rfl)
  have hh3 := q3.trans hh0
  have c4 : Steps p.tables e below (s₁.setTop (entryFrame m #[.ref a, .ref b, .int (Int32.ofNat o), .int (Int32.ofNat len), .null] 6)) (T3.setTop (mkF m 27 #[.val (.ref a), .val (.ref b), .val (.int (Int32.ofNat o)), .val (.int (Int32.ofNat len)), .val .null, .unset] [])) := (c2.trans (st3 _ (Steps.refl _))).trans (by
    refine XS.iloadN X3.here hexec rfl (hb hbytes d4) rfl ?_
    refine XS.ifYes X3.here hexec rfl (pc0 := 5) rfl (hb hbytes d5) rfl (i0_ne_t (nz32 (by omega) l0)) (by decide) rfl ?_
    exact Steps.refl _)
  obtain ⟨T5, X5, q5, st5⟩ := X3.sget hexec hown (wk W (.fieldLink "java/lang/String" 38 "java/lang/String" "COMPACT_STRINGS" "Z")) s1 (fun _ _ h => by rw [hh3]; exact h) (g := (mkF m 27 #[.val (.ref a), .val (.ref b), .val (.int (Int32.ofNat o)), .val (.int (Int32.ofNat len)), .val .null, .unset] [])) rfl (hb hbytes d27)
  have hh5 := q5.trans hh3
  have c6 : Steps p.tables e below (s₁.setTop (entryFrame m #[.ref a, .ref b, .int (Int32.ofNat o), .int (Int32.ofNat len), .null] 6)) (T5.setTop (mkF m 30 #[.val (.ref a), .val (.ref b), .val (.int (Int32.ofNat o)), .val (.int (Int32.ofNat len)), .val .null, .unset] [.int z])) := c4.trans (st5 _ (Steps.refl _))
  have c7 : Steps p.tables e below (s₁.setTop (entryFrame m #[.ref a, .ref b, .int (Int32.ofNat o), .int (Int32.ofNat len), .null] 6)) (T5.setTop (mkF m 36 #[.val (.ref a), .val (.ref b), .val (.int (Int32.ofNat o)), .val (.int (Int32.ofNat len)), .val .null, .unset] [.int (Int32.ofNat len), .int (Int32.ofNat o), .ref b])) := c6.trans (by
    refine XS.ifNo X5.here hexec rfl (hb hbytes d30) rfl (i0_eq_f hz) ?_
    refine XS.aloadN X5.here hexec rfl (hb hbytes d33) rfl rfl ?_
    refine XS.iloadN X5.here hexec rfl (hb hbytes d34) rfl ?_
    refine XS.iloadN X5.here hexec rfl (hb hbytes d35) rfl ?_
    exact Steps.refl _)
  obtain ⟨v8, T8, X8, E8, g8⟩ := X5.callS hexec (Cmp3.law l b A o len) hown (wks W (staticW "java/lang/String" 177 Cmp3.yN)) (wk W Cmp3.tab) (W := 0) (Nat.le_of_ble_eq_true rfl) (Nat.le_of_ble_eq_true rfl) (Nat.le_refl _) (by show 0 + len ≤ len; omega) (g := (mkF m 36 #[.val (.ref a), .val (.ref b), .val (.int (Int32.ofNat o)), .val (.int (Int32.ofNat len)), .val .null, .unset] [.int (Int32.ofNat len), .int (Int32.ofNat o), .ref b])) rfl (by rw [hml]; rfl) c7 (argsL := [.ref b, .int (Int32.ofNat o), .int (Int32.ofNat len)]) (rest := []) rfl rfl (by show 2 * 0 + 0 ≤ _; decide) (hb hbytes d36) (⟨rfl, hA.mv X5.warmed.alike hh5, l1, l2, hp⟩)
  obtain ⟨e8, z8⟩ := E8
  obtain ⟨rfl, N, n1, n2, n3, n4, n5, n6⟩ := NewArr.mv _ T5 s _ _ hh5.symm (Vm.Alike.refl _) rfl e8
  rw [hh5] at z8
  have hB1 := hB.keep X8.warmed.alike (n6 _ _ hB.1)
  have hne : s.heap.size ≠ a := (Nat.ne_of_lt (Array.getElem?_eq_some_iff.mp hB.1).1).symm
  have c9 : Steps p.tables e below (s₁.setTop (entryFrame m #[.ref a, .ref b, .int (Int32.ofNat o), .int (Int32.ofNat len), .null] 6)) (T8.setTop (mkF m 39 #[.val (.ref a), .val (.ref b), .val (.int (Int32.ofNat o)), .val (.int (Int32.ofNat len)), .val .null, .unset] [.ref s.heap.size])) := g8
  have c10 : Steps p.tables e below (s₁.setTop (entryFrame m #[.ref a, .ref b, .int (Int32.ofNat o), .int (Int32.ofNat len), .null] 6)) (T8.setTop (mkF m 45 #[.val (.ref a), .val (.ref b), .val (.int (Int32.ofNat o)), .val (.int (Int32.ofNat len)), .val .null, .val (.ref s.heap.size)] [.int (Int32.ofNat N.slots.size), .ref s.heap.size, .ref a])) := by
    have hc : Steps p.tables e below (s₁.setTop (entryFrame m #[.ref a, .ref b, .int (Int32.ofNat o), .int (Int32.ofNat len), .null] 6)) (T8.setTop (mkF m 45 #[.val (.ref a), .val (.ref b), .val (.int (Int32.ofNat o)), .val (.int (Int32.ofNat len)), .val .null, .val (.ref s.heap.size)] [.int (Int32.ofNat len), .ref s.heap.size, .ref a])) := c9.trans (by
      refine XS.astore X8.here hexec rfl (hb hbytes d39) rfl rfl rfl ?_
      refine XS.aloadN X8.here hexec rfl (hb hbytes d41) rfl rfl ?_
      refine XS.aload X8.here hexec rfl (hb hbytes d42) rfl rfl ?_
      refine XS.iloadN X8.here hexec rfl (hb hbytes d44) rfl ?_
      exact Steps.refl _)
    rw [n4]; exact hc
  obtain ⟨v11, T11, X11, E11, g11⟩ := X8.callS hexec (CodL.law l s.heap.size N) hown (wks W (staticW "java/lang/String" 47 CodL.yN)) (wk W CodL.tab) (W := 1) (Nat.le_of_ble_eq_true rfl) (Nat.le_of_ble_eq_true rfl) (Nat.le_refl _) (by show 0 + len + 0 ≤ len; omega) (g := (mkF m 45 #[.val (.ref a), .val (.ref b), .val (.int (Int32.ofNat o)), .val (.int (Int32.ofNat len)), .val .null, .val (.ref s.heap.size)] [.int (Int32.ofNat N.slots.size), .ref s.heap.size, .ref a])) rfl (by rw [hml]; rfl) c10 (argsL := [.ref s.heap.size, .int (Int32.ofNat N.slots.size)]) (rest := [.ref a]) rfl rfl (by show 2 * 0 + (1 + 0) ≤ _; decide) (hb hbytes d45) (⟨rfl, n1⟩)
  obtain ⟨rfl, q11⟩ := E11
  have hB11 := hB1.mv (X8.warmed.alike.symm.trans X11.warmed.alike) q11
  have c12 : Steps p.tables e below (s₁.setTop (entryFrame m #[.ref a, .ref b, .int (Int32.ofNat o), .int (Int32.ofNat len), .null] 6)) (T11.setTop (mkF m 48 #[.val (.ref a), .val (.ref b), .val (.int (Int32.ofNat o)), .val (.int (Int32.ofNat len)), .val .null, .val (.ref s.heap.size)] [.int 0, .ref a])) := g11
  obtain ⟨T13, X13, p13, bl13, sl13, st13⟩ := X11.finit hexec hown (wk W (.fieldLink "java/lang/String" 15 "java/lang/String" "coder" "B")) (Or.inr ⟨_, (wk W (.laysFinal "java/lang/String" "java/lang/String" "coder" "B"))⟩) (Or.inl ⟨rfl, hnm⟩) f2 (Or.inl rfl) hB11 (t := .byte) (by decide +kernel) rfl (g := (mkF m 48 #[.val (.ref a), .val (.ref b), .val (.int (Int32.ofNat o)), .val (.int (Int32.ofNat len)), .val .null, .val (.ref s.heap.size)] [.int 0, .ref a])) rfl (rest := []) rfl (hb hbytes d48)
  have c14 : Steps p.tables e below (s₁.setTop (entryFrame m #[.ref a, .ref b, .int (Int32.ofNat o), .int (Int32.ofNat len), .null] 6)) (T13.setTop (mkF m 54 #[.val (.ref a), .val (.ref b), .val (.int (Int32.ofNat o)), .val (.int (Int32.ofNat len)), .val .null, .val (.ref s.heap.size)] [.ref s.heap.size, .ref a])) := (c12.trans (st13 _ (Steps.refl _))).trans (by
    refine XS.aloadN X13.here hexec rfl (hb hbytes d51) rfl rfl ?_
    refine XS.aload X13.here hexec rfl (hb hbytes d52) rfl rfl ?_
    exact Steps.refl _)
  obtain ⟨T15, X15, p15, bl15, sl15, st15⟩ := X13.finit hexec hown (wk W (.fieldLink "java/lang/String" 9 "java/lang/String" "value" "[B")) (Or.inr ⟨_, (wk W (.laysFinal "java/lang/String" "java/lang/String" "value" "[B"))⟩) (Or.inl ⟨rfl, hnm⟩) f1 (Or.inl rfl) bl13 (t := (.array .byte)) (by decide +kernel) rfl (g := (mkF m 54 #[.val (.ref a), .val (.ref b), .val (.int (Int32.ofNat o)), .val (.int (Int32.ofNat len)), .val .null, .val (.ref s.heap.size)] [.ref s.heap.size, .ref a])) rfl (rest := []) rfl (hb hbytes d54)
  have c16 : Steps p.tables e below (s₁.setTop (entryFrame m #[.ref a, .ref b, .int (Int32.ofNat o), .int (Int32.ofNat len), .null] 6)) (T15.setTop (mkF m 57 #[.val (.ref a), .val (.ref b), .val (.int (Int32.ofNat o)), .val (.int (Int32.ofNat len)), .val .null, .val (.ref s.heap.size)] [])) := c14.trans (st15 _ (Steps.refl _))
  have ap := apart (Or.inr ⟨_, (wk W (.laysFinal "java/lang/String" "java/lang/String" "value" "[B"))⟩) (Or.inr ⟨_, (wk W (.laysFinal "java/lang/String" "java/lang/String" "coder" "B"))⟩) f1 f2 (t₁ := .array .byte) (t₂ := .byte) (by decide +kernel) (by decide +kernel) (by decide)
  have al := X8.warmed.alike.symm.trans X15.warmed.alike
  have n7 : T11.heap[s.heap.size]? = some N := by rw [q11]; exact n1.1
  exact ⟨T15, none, _, _, _, X15, by simp, rfl, by omega, (fun _ => rfl), ⟨rfl, _, N, bl15, ((Same.refl D _).set _ (by simp)).set _ (by simp), sl15, (Cell.slots_setSlot_ne _ ap).trans sl13, n1.keep al (p15.other hne (p13.other hne n7)), n2, by rw [al.findClass]; exact n3, n4, n5, fun y c h1 h2 => p15.other h1 (p13.other h1 (by rw [q11]; exact n6 y c h2)), by rw [p15.2.2, p13.2.2, q11]; exact z8⟩, fun fs hl => c16.trans (X15.returnOut hexec hret (hb hbytes d57) hl)⟩
end New4
namespace New1
def yN : MethodName := ⟨"java/lang/String", "<init>", "([C)V"⟩
abbrev yB : ByteArray := jdk_42_method_3_code
theorem d0 : decode yB 0 = .ok (.aload_n 0, 1) := by decide +kernel
theorem d1 : decode yB 1 = .ok (.aload_n 1, 1) := by decide +kernel
theorem d2 : decode yB 2 = .ok (.iconst 0, 1) := by decide +kernel
theorem d3 : decode yB 3 = .ok (.aload_n 1, 1) := by decide +kernel
theorem d4 : decode yB 4 = .ok (.arraylength, 1) := by decide +kernel
theorem d5 : decode yB 5 = .ok (.aconst_null, 1) := by decide +kernel
theorem d6 : decode yB 6 = .ok (.invokespecial 27, 3) := by decide +kernel
theorem d9 : decode yB 9 = .ok (.return_, 1) := by decide +kernel
def site : List Cond := [New4.tab] ++ initW "java/lang/String" 27 New4.yN
def tab : Cond := tabOf yN yB 2 none site
def P (a : Addr) (D : Cell) (fV fC : Field) (b : Addr) (A : Cell) (z : Int32) (args : Array Value) (s : State) : Prop := args = #[.ref a, .ref b] ∧ Blank "java/lang/String" a D s ∧ Found "java/lang/String" "value" "[B" fV s ∧ Found "java/lang/String" "coder" "B" fC s ∧ Ch b A s ∧ StaticIs s "java/lang/String" "COMPACT_STRINGS" "Z" (.int z) ∧ ¬ z = 0 ∧ 0 < A.slots.size ∧ A.slots.size ≤ 536870912 ∧ ∀ i, i < A.slots.size → ¬ 255 < cv A i
def E (a : Addr) (D : Cell) (fV fC : Field) (A : Cell) (r : Option Value) (s u : State) : Prop := Got a D fV fC A 0 A.slots.size r s u
/-- new String(chars), not empty, no char above 255: a Latin-1 String of their low bytes -/
theorem law (l : Launch) (a : Addr) (D : Cell) (fV fC : Field) (b : Addr) (A : Cell) (z : Int32) : Law l yN 2 1 3 52 yB 2 none site (P a D fV fC b A z) (E a D fV fC A) [⟨a, fC.slot⟩, ⟨a, fV.slot⟩] 1 A.slots.size := by
  refine Law.of_walk (plainFor_of_name (by decide +kernel)) (by decide +kernel) (by decide +kernel) (by decide) (fun _ _ h => by rw [h.1]; rfl) (fun _ U U' hal hh h => ⟨h.1, h.2.1.mv hal hh, h.2.2.1.al hal, h.2.2.2.1.al hal, h.2.2.2.2.1.mv hal hh, h.2.2.2.2.2.1.there hal hh, h.2.2.2.2.2.2⟩) (fun r U U' V V' h1 hal h2 h => Got.mv r U U' V V' h1 hal h2 h) ?_
  intro p e s m args below meth c s₁ X0 hexec hbytes hml hret hlk hnm hown hh0 W hP
  obtain ⟨rfl, hB, f1, f2, hA, s1, hz, l0, l2, hp⟩ := hP
  have c1 : Steps p.tables e below (s₁.setTop (entryFrame m #[.ref a, .ref b] 2)) (s₁.setTop (mkF m 0 #[.val (.ref a), .val (.ref b)] [])) := entry rfl
  have c2 : Steps p.tables e below (s₁.setTop (entryFrame m #[.ref a, .ref b] 2)) (s₁.setTop (mkF m 6 #[.val (.ref a), .val (.ref b)] [.null, .int (Int32.ofNat A.slots.size), .int 0, .ref b, .ref a])) := c1.trans (by
    refine XS.aloadN X0.here hexec rfl (hb hbytes d0) rfl rfl ?_
    refine XS.aloadN X0.here hexec rfl (hb hbytes d1) rfl rfl ?_
    refine iconstV X0.here hexec rfl 0 (hb hbytes d2) (by decide) ?_
    refine XS.aloadN X0.here hexec rfl (hb hbytes d3) rfl rfl ?_
    refine X0.alen hexec (hA.1.mv X0.warmed.alike hh0) rfl rfl (hb hbytes d4) ?_
    refine XS.aconstNull X0.here hexec rfl (hb hbytes d5) ?_
    exact Steps.refl _)
  obtain ⟨v3, T3, X3, E3, g3⟩ := X0.callN hexec (New4.law l a D fV fC b A z 0 A.slots.size) rfl hown (wks W (initW "java/lang/String" 27 New4.yN)) (W New4.tab (by simp only [site, List.mem_cons, List.mem_append, true_or, or_true])) (W := 0) (Nat.le_of_ble_eq_true rfl) (Nat.le_of_ble_eq_true rfl) (Nat.le_refl _) (by show 0 + A.slots.size ≤ A.slots.size; omega) (g := (mkF m 6 #[.val (.ref a), .val (.ref b)] [.null, .int (Int32.ofNat A.slots.size), .int (Int32.ofNat 0), .ref b, .ref a])) rfl (by rw [hml]; rfl) c2 (argsL := [.ref b, .int (Int32.ofNat 0), .int (Int32.ofNat A.slots.size), .null]) (rest := []) rfl rfl (by show 2 * 0 + 0 ≤ _; decide) (hb hbytes d6) (⟨rfl, hB.mv X0.warmed.alike hh0, f1.al X0.warmed.alike, f2.al X0.warmed.alike, hA.mv X0.warmed.alike hh0, s1.there X0.warmed.alike hh0, hz, l0, by omega, l2, fun i hi => by rw [Nat.zero_add]; exact hp i hi⟩)
  have e0 := Got.mv _ s₁ s _ _ hh0.symm (Vm.Alike.refl _) rfl E3
  obtain rfl := e0.1
  have c4 : Steps p.tables e below (s₁.setTop (entryFrame m #[.ref a, .ref b] 2)) (T3.setTop (mkF m 9 #[.val (.ref a), .val (.ref b)] [])) := g3
  exact ⟨T3, none, _, _, _, X3, by simp, rfl, by omega, (fun _ => rfl), e0, fun fs hl => c4.trans (X3.returnOut hexec hret (hb hbytes d9) hl)⟩
theorem pays {l : Launch} {R : Room} {p : Program} {e : Env} {below : List Frame} {s : State} {sargs : Array Value} {len W : Nat} (a : Addr) (D : Cell) (fV fC : Field) (b : Addr) (A : Cell) (z : Int32) (htab : tab.before sargs s = true) (hfr : 4 ≤ R.frames) (hlo : W + 65 ≤ R.locals) :
    Back l R p e below s sargs yN len W (fun A₁ a₁ => A₁.cells + 1 ≤ R.cells ∧ A₁.slots + A.slots.size ≤ R.slots ∧ P a D fV fC b A z a₁ A₁.U) (fun A₁ _ v₁ B₁ => E a D fV fC A v₁ A₁.U B₁.U ∧ B₁.locs = A₁.locs ++ [⟨a, fC.slot⟩, ⟨a, fV.slot⟩] ∧ B₁.cells = A₁.cells + 1 ∧ B₁.slots = A₁.slots + A.slots.size) :=
  (law l a D fV fC b A z).pays htab hfr (by omega)
end New1
end StrChars
namespace StrChars.Road
open Jvm Sem ClassFile Op Lib Jvm.Stand Jvm.Free Jvm.Free.XT
open Jvm.Lib.Cold (StaticIs)
abbrev ST : String := "java/lang/String"
/-- every table word that New1's law asks, flat -/
abbrev words : List Jvm.Cond := [.code New1.yN New1.yB 2 none, .initialized ST, .methodLink ST 27 New4.yN, .instanceMethod New4.yN,
  .code New4.yN New4.yB 6 none, .fieldLink ST 38 ST "COMPACT_STRINGS" "Z", .laysFinal ST ST "value" "[B", .fieldLink ST 9 ST "value" "[B", .laysFinal ST ST "coder" "B", .fieldLink ST 15 ST "coder" "B",
  .methodLink ST 1 Lib.objectInit, .instanceMethod Lib.objectInit, .code Lib.objectInit ⟨#[0xb1]⟩ 1 none, .methodLink ST 177 Cmp3.yN, .static Cmp3.yN, .methodLink ST 47 CodL.yN, .static CodL.yN,
  .code Cmp3.yN Cmp3.yB 6 (some (.array .byte)), .initialized U16, .arrayClass .byte, .methodLink U16 115 Cmp5.yN, .static Cmp5.yN, .code Cmp5.yN Cmp5.yB 7 (some .int), .code CodL.yN CodL.yB 2 (some .byte)]
theorem tab_of {a : Array Value} {s : State} (h : ∀ w ∈ words, w.before a s = true) : New1.tab.before a s = true := by
  have h5 : Cmp5.tab.before a s = true := unparts (wk h (.code Cmp5.yN Cmp5.yB 7 (some .int))) (wks h (.initialized Cmp5.yN.cls :: Cmp5.site))
  have hc : CodL.tab.before a s = true := unparts (wk h (.code CodL.yN CodL.yB 2 (some .byte))) (wks h (.initialized CodL.yN.cls :: CodL.site))
  have q5 : ∀ w ∈ Cmp5.tab :: words, w.before a s = true := fun w hw => (List.mem_cons.mp hw).elim (fun e => e ▸ h5) (h w)
  have h3 : Cmp3.tab.before a s = true := unparts (wk q5 (.code Cmp3.yN Cmp3.yB 6 (some (.array .byte)))) (wks q5 (.initialized Cmp3.yN.cls :: Cmp3.site))
  have q3 : ∀ w ∈ Cmp3.tab :: CodL.tab :: words, w.before a s = true := fun w hw => (List.mem_cons.mp hw).elim (fun e => e ▸ h3) fun hw => (List.mem_cons.mp hw).elim (fun e => e ▸ hc) (h w)
  have h4 : New4.tab.before a s = true := unparts (wk q3 (.code New4.yN New4.yB 6 none)) (wks q3 (.initialized New4.yN.cls :: New4.site))
  have q4 : ∀ w ∈ New4.tab :: words, w.before a s = true := fun w hw => (List.mem_cons.mp hw).elim (fun e => e ▸ h4) (h w)
  exact unparts (wk q4 (.code New1.yN New1.yB 2 none)) (wks q4 (.initialized New1.yN.cls :: New1.site))
/-- the words ride from the start Z to the walk's own state -/
theorem moved {Z s : State} {a0 args : Array Value} (hZ : Z.Warmed39 s.vm) (hw : ∀ d ∈ words, d.before a0 Z = true) : ∀ d ∈ words, d.before args s = true := fun d hd => by
  have q := hw d hd
  have t : ∀ d ∈ words, d = .arrayClass .byte ∨ (d.onTables && d.keepsFace) = true := by decide +kernel
  rcases t d hd with rfl | t
  · exact RoadKit.mvA hZ q
  · exact RoadKit.mv hZ q t
/-- WHAT COMES BACK, over the tables of the start Z: h the heap at the call, h' behind it -/
def Q (Z : State) (x : Addr) (A : Cell) (h : Heap) (v : Option Value) (h' : Heap) (L : List Loc) : Prop := v = none ∧ (∀ y ∈ L, y.base = x) ∧ RoadKit.Keep h h' [x] ∧ h'.size = h.size + 1 ∧ RoadKit.Exa Z h' x ST ∧ RoadKit.Fld Z h' x ST "value" "[B" (.ref h.size) ∧ RoadKit.Fld Z h' x ST "coder" "B" (.int 0) ∧
  (∃ V : Cell, RoadKit.Arr Z h' h.size V .byte ∧ V.vm = .none ∧ Z.vm.findClass "[B" = some V.cls ∧ V.slots.size = A.slots.size ∧ ∀ j, j < A.slots.size → V.slots[j]? = some (.int (lo8 (cv A j)))) ∧
  ∀ (O n d : String) (w : Value), RoadKit.Fld Z h x O n d w → RoadKit.slotOf Z O n d ≠ RoadKit.slotOf Z ST "value" "[B" → RoadKit.slotOf Z O n d ≠ RoadKit.slotOf Z ST "coder" "B" → RoadKit.Fld Z h' x O n d w
/-- **new String(chars) AT A CALL, IN THE ROAD'S FORM**: for specialBack behind newO: x the fresh String, b the char[] with the cell A -/
theorem back {p : Program} {l : Launch} {e : Env} {R : Room} {s : State} {args : Array Value} {below : List Frame} {len W : Nat} {Z : State} {a0 : Array Value} {h : Heap} (hZ : Z.Warmed39 s.vm) (hw : ∀ d ∈ words, d.before a0 Z = true) {kI : Nat} (wi : (Jvm.Cond.instantiable ST kI).before a0 Z = true)
    {x b : Addr} {A : Cell} {z : Int32} {v0 c0 : Value} (E : RoadKit.Exa Z h x ST) (V : RoadKit.Fld Z h x ST "value" "[B" v0) (C : RoadKit.Fld Z h x ST "coder" "B" c0) (K : RoadKit.Arr Z h b A .char) (hty : Typed .char A) (S : RoadKit.Sta Z h ST "COMPACT_STRINGS" "Z" (.int z)) (hz : ¬ z = 0)
    (l0 : 0 < A.slots.size) (l2 : A.slots.size ≤ 536870912) (hp : ∀ i, i < A.slots.size → ¬ 255 < cv A i) (hfr : 4 ≤ R.frames) (hlo : W + 65 ≤ R.locals) :
    Back l R p e below s args New1.yN len W (fun P a => a = #[.ref x, .ref b] ∧ P.U.heap = h ∧ P.cells + 1 ≤ R.cells ∧ P.slots + A.slots.size ≤ R.slots)
      (fun P _ v B => ∃ L, Q Z x A h v B.U.heap L ∧ B.locs = P.locs ++ L ∧ B.cells = P.cells + 1 ∧ B.slots = P.slots + A.slots.size) := by
  intro m meth c P g ig mk a X hg hsize hdg hW hn hp'
  obtain ⟨rfl, rfl, r1, r2⟩ := hp'
  have al : Z.vm.Alike P.U.vm := hZ.alike.trans X.warmed.alike
  obtain ⟨D, cfV, kV, iV, fV, hD, gV, stV, knV, obV, asV, slV⟩ := id V
  obtain ⟨D', cfC, kC, iC, fC, hD', gC, stC, -, -, asC, slC⟩ := id C
  cases hD.symm.trans hD'
  obtain ⟨D2, kD, e1, e2, e3, e4, e5⟩ := id E
  cases hD.symm.trans e1
  obtain ⟨c2, k2, i1, i2, i3, -⟩ := Cond.instantiable_spec wi
  cases e2.symm.trans i1
  cases e3.symm.trans i2
  obtain ⟨kU, u1, u2⟩ := al.2.2 _ _ e3
  have hB : Blank ST x D P.U := ⟨hD, ⟨knV, fun q hq => by rw [hq] at obV; cases obV⟩, by rw [al.findClass]; exact e2, kU, u1, by rw [u2]; exact i3, by rw [u2]; exact e5 i3⟩
  have F1 : Found ST "value" "[B" fV P.U := ⟨SBG.found_only al ⟨cfV, kV, iV, gV⟩, stV⟩
  have F2 : Found ST "coder" "B" fC P.U := ⟨SBG.found_only al ⟨cfC, kC, iC, gC⟩, stC⟩
  have hA : Ch b A P.U := ⟨⟨K.1, State.isArrayOf_alike al K.2.1, K.2.2, by omega⟩, hty⟩
  have hS : StaticIs P.U ST "COMPACT_STRINGS" "Z" (.int z) := by
    obtain ⟨cfS, iS, kS, fS, st, cS, t1, t2, t3, t4, t5, t6, t7⟩ := S
    exact StaticIs.there (s := { Z with heap := P.U.heap }) ⟨cfS, iS, kS, fS, st, cS, t1, t2, t3, t4, t5, (fun q => by rw [q] at t6; cases t6), t7⟩ al rfl
  obtain ⟨v, B, X', ⟨⟨hv, E', V', q1, q2, q3, q4, q5, q6, q7, q8, q9, q10, q11⟩, hl, hc, hs⟩, st⟩ := New1.pays x D fV fC b A z (tab_of (moved hZ hw)) hfr hlo m meth c P g ig mk _ X hg hsize hdg hW hn ⟨r1, r2, rfl, hB, F1, F2, hA, hS, hz, l0, l2, hp⟩
  have al' : Z.vm.Alike B.U.vm := hZ.alike.trans X'.warmed.alike
  have hsz : E'.slots.size = D.slots.size := by
    obtain ⟨-, -, -, kB, w1, w2, w3⟩ := q1
    obtain ⟨kB', y1, y2⟩ := al'.2.2 _ _ e3
    rw [q2.2.1] at w1
    cases w1.symm.trans y1
    rw [w3, e5 i3, y2]
  refine ⟨v, B, X', ⟨_, ⟨hv, ?_, ⟨by omega, fun y cy hy hn' => q10 y cy (by simpa using hn') hy, fun y cy hy => ?_⟩, q11, ⟨E', _, q1.1, by rw [q2.2.1]; exact e2, by rw [q2.2.1]; exact e3, by rw [q2.1]; exact obV, fun _ => by rw [hsz]; exact e5 i3⟩,
    ⟨E', cfV, kV, iV, fV, q1.1, gV, stV, by rw [q2.1]; exact knV, by rw [q2.1]; exact obV, by rw [q2.2.1]; exact asV, q3⟩, ⟨E', cfC, kC, iC, fC, q1.1, gC, stC, by rw [q2.1]; exact knV, by rw [q2.1]; exact obV, by rw [q2.2.1]; exact asC, q4⟩,
    ⟨V', ⟨q5.1, State.isArrayOf_alike al'.symm q5.2.1, q5.2.2.1⟩, q6, by rw [← al'.findClass]; exact q7, q8, fun j hj => by have := q9 j hj; rwa [Nat.zero_add] at this⟩, fun O n d w F n1 n2 => ?_⟩, hl, hc, hs⟩, st⟩
  · intro y hy
    simp only [List.mem_cons, List.not_mem_nil, or_false] at hy
    rcases hy with rfl | rfl <;> rfl
  · by_cases q : y = x
    · subst q
      cases hD.symm.trans hy
      exact ⟨E', q1.1, q2.2.1, q2.1, hsz⟩
    · exact ⟨cy, q10 y cy q hy, rfl, rfl, rfl⟩
  · obtain ⟨D3, cf, k, i, f, g1, g2, g3, g4, g5, g6, g7⟩ := F
    cases hD.symm.trans g1
    simp only [RoadKit.slotOf, g2, gV, gC, Option.map_some, Option.getD_some] at n1 n2
    exact ⟨E', cf, k, i, f, q1.1, g2, g3, by rw [q2.1]; exact g4, by rw [q2.1]; exact g5, by rw [q2.2.1]; exact g6, by rw [q2.2.2 f.slot (by simp [n1, n2])]; exact g7⟩
end StrChars.Road
namespace StrChars.Road
open Jvm Sem ClassFile Op Lib Jvm.Stand Jvm.Free Jvm.Free.XT
/-- WHAT COMES BACK, the byte[] as a list of values -/
def QA (Z : State) (x : Addr) (zn : Int32) (cs : List Int32) (h : Heap) (v : Option Value) (h' : Heap) (L : List Loc) : Prop := v = none ∧ (∀ y ∈ L, y.base = x) ∧ RoadKit.Keep h h' [x] ∧ h'.size = h.size + 1 ∧ RoadKit.Exa Z h' x ST ∧ RoadKit.Fld Z h' x ST "value" "[B" (.ref h.size) ∧ RoadKit.Fld Z h' x ST "coder" "B" (.int 0) ∧
  (∃ kb, Z.vm.findClass "[B" = some kb ∧ RoadKit.Arv Z h' h.size kb .byte zn (cs.map fun c => .int (lo8 c)) (.int 0)) ∧
  ∀ (O n d : String) (w : Value), RoadKit.Fld Z h x O n d w → RoadKit.slotOf Z O n d ≠ RoadKit.slotOf Z ST "value" "[B" → RoadKit.slotOf Z O n d ≠ RoadKit.slotOf Z ST "coder" "B" → RoadKit.Fld Z h' x O n d w
/-- **new String(chars) AT A CALL, THE ARRAYS AS LISTS**: the char[] at b holds cs, not empty, no char above 255 -/
theorem backArv {p : Program} {l : Launch} {e : Env} {R : Room} {s : State} {args : Array Value} {below : List Frame} {len W : Nat} {Z : State} {a0 : Array Value} {h : Heap} (hZ : Z.Warmed39 s.vm) (hw : ∀ d ∈ words, d.before a0 Z = true) {kI : Nat} (wi : (Jvm.Cond.instantiable ST kI).before a0 Z = true)
    {x b : Addr} {k : ClassId} {zn z : Int32} {cs : List Int32} {dv v0 c0 : Value} (E : RoadKit.Exa Z h x ST) (V : RoadKit.Fld Z h x ST "value" "[B" v0) (C : RoadKit.Fld Z h x ST "coder" "B" c0) (K : RoadKit.Arv Z h b k .char zn (cs.map Value.int) dv) (S : RoadKit.Sta Z h ST "COMPACT_STRINGS" "Z" (.int z)) (hz : ¬ z = 0)
    (hlen : zn.toNatClampNeg = cs.length) (h0 : 0 < cs.length) (hbig : cs.length ≤ 536870912) (hall : ∀ c ∈ cs, ¬ 255 < c) (hfr : 4 ≤ R.frames) (hlo : W + 65 ≤ R.locals) :
    Back l R p e below s args New1.yN len W (fun P a => a = #[.ref x, .ref b] ∧ P.U.heap = h ∧ P.cells + 1 ≤ R.cells ∧ P.slots + cs.length ≤ R.slots)
      (fun P _ v B => ∃ L, QA Z x zn cs h v B.U.heap L ∧ B.locs = P.locs ++ L ∧ B.cells = P.cells + 1 ∧ B.slots = P.slots + cs.length) := by
  obtain ⟨A, K1, K2, K3, K4, K5, K6⟩ := K
  have e : A.slots.size = cs.length := K3.trans hlen
  have hat : ∀ (i : Nat) (hi : i < cs.length), A.slots[i]? = some (.int cs[i]) := fun i hi => by rw [K5 i (by omega)]; simp [List.getD_eq_getElem?_getD, hi]
  have hcv : ∀ (i : Nat) (hi : i < cs.length), cv A i = cs[i] := fun i hi => by unfold cv; rw [hat i hi]
  have hty : Typed .char A := fun i v hv => by
    have hi : i < A.slots.size := (Array.getElem?_eq_some_iff.mp hv).1
    have q := K5 i hi
    rw [hv] at q
    rw [Option.some.inj q]
    exact K6 i hi
  refine Back.mono (back hZ hw wi E V C K1 hty S hz (by omega) (by omega) (fun i hi => by rw [hcv i (by omega)]; exact hall _ (List.getElem_mem _)) hfr hlo) (fun P a hp => ⟨hp.1, hp.2.1, hp.2.2.1, by rw [e]; exact hp.2.2.2⟩) (fun P a v B hp hq => ?_)
  obtain ⟨L, ⟨q1, q2, q3, q4, q5, q6, q7, ⟨V', v1, v2, v3, v4, v5⟩, q9⟩, hl, hc, hs⟩ := hq
  refine ⟨L, ⟨q1, q2, q3, q4, q5, q6, q7, ⟨V'.cls, v3, V', v1, rfl, by rw [v4, e, hlen], K4, fun i hi => ?_, fun i hi => ?_⟩, q9⟩, hl, hc, by rw [hs, e]⟩
  · have hi' : i < cs.length := by omega
    rw [v5 i (by omega), hcv i hi']; simp [List.getD_eq_getElem?_getD, hi']
  · have hi' : i < cs.length := by omega
    simp only [List.getD_eq_getElem?_getD, List.getElem?_map, List.getElem?_eq_getElem hi', Option.map_some, Option.getD_some]
    exact fits_lo8 _
end StrChars.Road
namespace StrChars.Road
open Jvm Sem ClassFile Op Lib Jvm.Stand Jvm.Free Jvm.Free.XT
/-- WHAT COMES BACK, in the writer's own shape -/
def QV (Z : State) (x : Addr) (N : Int32) (bs : List Int32) (h : Heap) (n0 : Nat) (v : Option Value) (h' : Heap) (L : List Loc) : Prop := v = none ∧ RoadKit.Fr n0 L ∧ RoadKit.Keep h h' [x] ∧ RoadKit.Exa Z h' x ST ∧ RoadKit.Fld Z h' x ST "coder" "B" (.int 0) ∧
  ∃ (t : Addr) (kb : ClassId), n0 ≤ t ∧ h.size ≤ t ∧ ¬ t = x ∧ RoadKit.Fld Z h' x ST "value" "[B" (.ref t) ∧ RoadKit.Arv Z h' t kb .byte N (bs.map Value.int) (.int 0)
/-- **new String(chars) AT A CALL, FOR THE WRITER**: a char[] of n known ints, each 0 to 255 -/
theorem backV {p : Program} {l : Launch} {e : Env} {R : Room} {s : State} {args : Array Value} {below : List Frame} {len W : Nat} {Z : State} {a0 : Array Value} {h : Heap} (hZ : Z.Warmed39 s.vm) (hw : ∀ d ∈ words, d.before a0 Z = true) {kI : Nat} (wi : (Jvm.Cond.instantiable ST kI).before a0 Z = true)
    {x b : Addr} {kC : ClassId} {cs bs : List Int32} {d v0 c0 : Value} {z N : Int32} {n n0 : Nat} (hx0 : n0 ≤ x) (hh0 : n0 ≤ h.size) (E : RoadKit.Exa Z h x ST) (V : RoadKit.Fld Z h x ST "value" "[B" v0) (C : RoadKit.Fld Z h x ST "coder" "B" c0) (K : RoadKit.Arv Z h b kC .char N (cs.map Value.int) d) (S : RoadKit.Sta Z h ST "COMPACT_STRINGS" "Z" (.int z)) (hz : ¬ z = 0)
    (hn : cs.length = n) (hN : N = Int32.ofNat n) (l0 : 0 < n) (l2 : n ≤ 4000) (hp : ∀ c ∈ cs, ¬ c < 0 ∧ ¬ (255 : Int32) < c) (hb : bs = cs.map (fun c => c.toInt8.toInt32)) (hfr : 4 ≤ R.frames) (hlo : W + 65 ≤ R.locals) :
    Back l R p e below s args (⟨"java/lang/String", "<init>", "([C)V"⟩ : MethodName) len W (fun P a => a = #[.ref x, .ref b] ∧ P.U.heap = h ∧ P.cells + 1 ≤ R.cells ∧ P.slots + n ≤ R.slots)
      (fun P _ v B => ∃ L, QV Z x N bs h n0 v B.U.heap L ∧ B.locs = P.locs ++ L ∧ B.cells = P.cells + 1 ∧ B.slots = P.slots + n) := by
  subst hn hN hb
  refine Back.mono (backArv hZ hw wi E V C K S hz (n32 (by omega)) l0 (by omega) (fun c hc => (hp c hc).2) hfr hlo) (fun P a hp => hp) (fun P a v B hp hq => ?_)
  obtain ⟨L, ⟨q1, q2, q3, q4, q5, q6, q7, ⟨kb, v1, v2⟩, q9⟩, hl, hc, hs⟩ := hq
  exact ⟨L, ⟨q1, fun y hy => by rw [q2 y hy]; exact hx0, q3, q5, q7, h.size, kb, hh0, Nat.le_refl _, Nat.ne_of_gt E.lt, q6, by rw [List.map_map]; exact v2⟩, hl, hc, hs⟩
end StrChars.Road
end Jvm.Pilot.@@N@@
namespace Jvm.Pilot.@@N@@
open Jvm Jvm.ClassFile Sem Op Lib Jvm.Free Jvm.Stand Jvm.LawKit Jvm.RoadKit Bundle Jvm.Pilot.@@N@@.Jvm.D
section OwnPre
def Gl (tb : Tables) (e : Env) (below : List Frame) (P : State → Outcome → Prop) (T : State) (m : MethodId) (pc : Nat) (L : Array Slot) (S : List Value) : Prop := ∃ s₂ o, Steps tb e below (T.setTop (mkF m pc L S)) s₂ ∧ P s₂ o
def Wk (p : Program) (l : Launch) (e : Env) (R : Room) (s : State) (m : MethodId) (args : Array Value) (below : List Frame) (meth : Method) (c : Code) (own : String) (Z : State) (hb : Heap) (ws : List Addr) (I : Heap → Prop) (T : State) (h : Heap) (locs : List Loc) (cells slots : Nat) : Prop :=
  Stand p l e R s m args below meth c T locs cells slots ∧ p.tables.exec = Jvm.exec ∧ T.heap = h ∧ Z.Warmed39 s.vm ∧ s.vm.findClass own = some m.cls ∧ Old Z Z.heap.size h ∧ Fr Z.heap.size locs ∧ Keep hb h ws ∧ I h
variable {p : Program} {l : Launch} {e : Env} {R : Room} {s : State} {m : MethodId} {args : Array Value} {below : List Frame} {meth : Method} {c : Code} {T : State} {locs : List Loc} {cells slots cells' slots' : Nat} {Z : State} {a0 : Array Value} {h hb : Heap} {ws : List Addr} {own : String} {I : Heap → Prop} {P : State → Outcome → Prop} {pc pc' : Nat} {L L' : Array Slot} {S : List Value}
theorem Gl.st {tb : Tables} {T T' : State} {S' : List Value} (k : ∀ target, Steps tb e below (T'.setTop (mkF m pc' L' S')) target → Steps tb e below (T.setTop (mkF m pc L S)) target) (G : Gl tb e below P T' m pc' L' S') : Gl tb e below P T m pc L S := by
  obtain ⟨s2, o, h1, h2⟩ := G
  exact ⟨s2, o, k _ h1, h2⟩
theorem Gl.tr {tb : Tables} {T T' : State} {S' : List Value} (k : Steps tb e below (T.setTop (mkF m pc L S)) (T'.setTop (mkF m pc' L' S'))) (G : Gl tb e below P T' m pc' L' S') : Gl tb e below P T m pc L S := by
  obtain ⟨s2, o, h1, h2⟩ := G
  exact ⟨s2, o, k.trans h1, h2⟩
theorem Wk.ox (W : Wk p l e R s m args below meth c own Z hb ws I T h locs cells slots) : Ext Z.heap h := W.2.2.2.2.2.1.2
theorem Wk.old (W : Wk p l e R s m args below meth c own Z hb ws I T h locs cells slots) : Old Z Z.heap.size h := W.2.2.2.2.2.1
theorem Wk.keep (W : Wk p l e R s m args below meth c own Z hb ws I T h locs cells slots) : Keep hb h ws := W.2.2.2.2.2.2.2.1
theorem Wk.inv (W : Wk p l e R s m args below meth c own Z hb ws I T h locs cells slots) : I h := W.2.2.2.2.2.2.2.2
theorem Wk.zs (W : Wk p l e R s m args below meth c own Z hb ws I T h locs cells slots) : Z.heap.size ≤ h.size := W.ox.1
theorem Wk.al (W : Wk p l e R s m args below meth c own Z hb ws I T h locs cells slots) : Z.vm.Alike s.vm := W.2.2.2.1.alike
theorem own_ne {x b n : Nat} (h1 : x < n) (h2 : n ≤ b) : x ≠ b := Nat.ne_of_lt (Nat.lt_of_lt_of_le h1 h2)
theorem own_ne' {x b n : Nat} (h1 : x < n) (h2 : n ≤ b) : b ≠ x := Ne.symm (own_ne h1 h2)
theorem o_iloadN (W : Wk p l e R s m args below meth c own Z hb ws I T h locs cells slots) {k : Fin 4} {v : Int32} (hd : decode c.code pc = .ok (.iload_n k, 1)) (hl : L[k.val]? = some (.val (.int v))) (hp : pc + 1 = pc') (K : Gl p.tables e below P T m pc' L (.int v :: S)) : Gl p.tables e below P T m pc L S := by
  subst hp; exact Gl.st (fun _ q => XS.iloadN W.1.here W.2.1 rfl hd hl q) K
theorem o_iload (W : Wk p l e R s m args below meth c own Z hb ws I T h locs cells slots) {k : Nat} {v : Int32} (hd : decode c.code pc = .ok (.iload k, 2)) (hl : L[k]? = some (.val (.int v))) (hp : pc + 2 = pc') (K : Gl p.tables e below P T m pc' L (.int v :: S)) : Gl p.tables e below P T m pc L S := by
  subst hp; exact Gl.st (fun _ q => XS.iload W.1.here W.2.1 rfl hd hl q) K
theorem o_istoreN (W : Wk p l e R s m args below meth c own Z hb ws I T h locs cells slots) {k : Fin 4} {v : Int32} {L' : Array Slot} (hd : decode c.code pc = .ok (.istore_n k, 1)) (hl : storeLocals L k.val (.int v) = some L') (hp : pc + 1 = pc') (K : Gl p.tables e below P T m pc' L' S) : Gl p.tables e below P T m pc L (.int v :: S) := by
  subst hp; exact Gl.st (fun _ q => XS.istoreN W.1.here W.2.1 rfl hd rfl hl q) K
theorem o_istore (W : Wk p l e R s m args below meth c own Z hb ws I T h locs cells slots) {k : Nat} {v : Int32} {L' : Array Slot} (hd : decode c.code pc = .ok (.istore k, 2)) (hl : storeLocals L k (.int v) = some L') (hp : pc + 2 = pc') (K : Gl p.tables e below P T m pc' L' S) : Gl p.tables e below P T m pc L (.int v :: S) := by
  subst hp; exact Gl.st (fun _ q => XS.istore W.1.here W.2.1 rfl hd rfl hl q) K
theorem o_aloadN (W : Wk p l e R s m args below meth c own Z hb ws I T h locs cells slots) {k : Fin 4} {v : Value} (hd : decode c.code pc = .ok (.aload_n k, 1)) (hl : L[k.val]? = some (.val v)) (hv : v.isRef = true) (hp : pc + 1 = pc') (K : Gl p.tables e below P T m pc' L (v :: S)) : Gl p.tables e below P T m pc L S := by
  subst hp; exact Gl.st (fun _ q => XS.aloadN W.1.here W.2.1 rfl hd hl hv q) K
theorem o_aload (W : Wk p l e R s m args below meth c own Z hb ws I T h locs cells slots) {k : Nat} {v : Value} (hd : decode c.code pc = .ok (.aload k, 2)) (hl : L[k]? = some (.val v)) (hv : v.isRef = true) (hp : pc + 2 = pc') (K : Gl p.tables e below P T m pc' L (v :: S)) : Gl p.tables e below P T m pc L S := by
  subst hp; exact Gl.st (fun _ q => XS.aload W.1.here W.2.1 rfl hd hl hv q) K
theorem o_astoreN (W : Wk p l e R s m args below meth c own Z hb ws I T h locs cells slots) {k : Fin 4} {v : Value} {L' : Array Slot} (hd : decode c.code pc = .ok (.astore_n k, 1)) (hv : v.isRef = true) (hl : storeLocals L k.val v = some L') (hp : pc + 1 = pc') (K : Gl p.tables e below P T m pc' L' S) : Gl p.tables e below P T m pc L (v :: S) := by
  subst hp; exact Gl.st (fun _ q => XS.astoreN W.1.here W.2.1 rfl hd rfl hv hl q) K
theorem o_astore (W : Wk p l e R s m args below meth c own Z hb ws I T h locs cells slots) {k : Nat} {v : Value} {L' : Array Slot} (hd : decode c.code pc = .ok (.astore k, 2)) (hv : v.isRef = true) (hl : storeLocals L k v = some L') (hp : pc + 2 = pc') (K : Gl p.tables e below P T m pc' L' S) : Gl p.tables e below P T m pc L (v :: S) := by
  subst hp; exact Gl.st (fun _ q => XS.astore W.1.here W.2.1 rfl hd rfl hv hl q) K
theorem o_iconst (W : Wk p l e R s m args below meth c own Z hb ws I T h locs cells slots) {i : Int} {v : Int32} (hd : decode c.code pc = .ok (.iconst i, 1)) (hv : Int32.ofInt i = v) (hp : pc + 1 = pc') (K : Gl p.tables e below P T m pc' L (.int v :: S)) : Gl p.tables e below P T m pc L S := by
  subst hp; exact Gl.st (fun _ q => XT.iconstV W.1.here W.2.1 rfl v hd hv q) K
theorem o_bipush (W : Wk p l e R s m args below meth c own Z hb ws I T h locs cells slots) {i : Int} {v : Int32} (hd : decode c.code pc = .ok (.bipush i, 2)) (hv : (Int8.ofInt i).toInt32 = v) (hp : pc + 2 = pc') (K : Gl p.tables e below P T m pc' L (.int v :: S)) : Gl p.tables e below P T m pc L S := by
  subst hp; exact Gl.st (fun _ q => XT.bipushV W.1.here W.2.1 rfl v hd hv q) K
theorem o_sipush (W : Wk p l e R s m args below meth c own Z hb ws I T h locs cells slots) {i : Int} {v : Int32} (hd : decode c.code pc = .ok (.sipush i, 3)) (hv : (Int16.ofInt i).toInt32 = v) (hp : pc + 3 = pc') (K : Gl p.tables e below P T m pc' L (.int v :: S)) : Gl p.tables e below P T m pc L S := by
  subst hp; exact Gl.st (fun _ q => XT.sipushV W.1.here W.2.1 rfl v hd hv q) K
theorem o_aconstNull (W : Wk p l e R s m args below meth c own Z hb ws I T h locs cells slots)  (hd : decode c.code pc = .ok (.aconst_null, 1)) (hp : pc + 1 = pc') (K : Gl p.tables e below P T m pc' L (.null :: S)) : Gl p.tables e below P T m pc L S := by
  subst hp; exact Gl.st (fun _ q => XS.aconstNull W.1.here W.2.1 rfl hd q) K
theorem o_iadd (W : Wk p l e R s m args below meth c own Z hb ws I T h locs cells slots) {x y v : Int32} (hd : decode c.code pc = .ok (.iadd, 1)) (hv : x + y = v) (hp : pc + 1 = pc') (K : Gl p.tables e below P T m pc' L (.int v :: S)) : Gl p.tables e below P T m pc L (.int y :: .int x :: S) := by
  subst hp; exact Gl.st (fun _ q => XS.iadd W.1.here W.2.1 rfl hd rfl (by rw [hv]; exact q)) K
theorem o_isub (W : Wk p l e R s m args below meth c own Z hb ws I T h locs cells slots) {x y v : Int32} (hd : decode c.code pc = .ok (.isub, 1)) (hv : x - y = v) (hp : pc + 1 = pc') (K : Gl p.tables e below P T m pc' L (.int v :: S)) : Gl p.tables e below P T m pc L (.int y :: .int x :: S) := by
  subst hp; exact Gl.st (fun _ q => XS.isub W.1.here W.2.1 rfl hd rfl (by rw [hv]; exact q)) K
theorem o_iand (W : Wk p l e R s m args below meth c own Z hb ws I T h locs cells slots) {x y v : Int32} (hd : decode c.code pc = .ok (.iand, 1)) (hv : x &&& y = v) (hp : pc + 1 = pc') (K : Gl p.tables e below P T m pc' L (.int v :: S)) : Gl p.tables e below P T m pc L (.int y :: .int x :: S) := by
  subst hp; exact Gl.st (fun _ q => XS.iand W.1.here W.2.1 rfl hd rfl (by rw [hv]; exact q)) K
theorem o_iushr (W : Wk p l e R s m args below meth c own Z hb ws I T h locs cells slots) {x v : Int32} {y : Int32} (hd : decode c.code pc = .ok (.iushr, 1)) (hv : (x.toUInt32 >>> (y &&& 31).toUInt32).toInt32 = v) (hp : pc + 1 = pc') (K : Gl p.tables e below P T m pc' L (.int v :: S)) : Gl p.tables e below P T m pc L (.int y :: .int x :: S) := by
  subst hp; exact Gl.st (fun _ q => XS.iushr W.1.here W.2.1 rfl hd rfl (by rw [hv]; exact q)) K
theorem o_i2c (W : Wk p l e R s m args below meth c own Z hb ws I T h locs cells slots) {x : Int32} {v : Int32} (hd : decode c.code pc = .ok (.i2c, 1)) (hv : x.toUInt32.toUInt16.toUInt32.toInt32 = v) (hp : pc + 1 = pc') (K : Gl p.tables e below P T m pc' L (.int v :: S)) : Gl p.tables e below P T m pc L (.int x :: S) := by
  subst hp; exact Gl.st (fun _ q => XS.i2c W.1.here W.2.1 rfl hd rfl (by rw [hv]; exact q)) K
theorem o_irem (W : Wk p l e R s m args below meth c own Z hb ws I T h locs cells slots) {x y v : Int32} (hd : decode c.code pc = .ok (.irem, 1)) (hy : y ≠ 0) (hv : x % y = v) (hp : pc + 1 = pc') (K : Gl p.tables e below P T m pc' L (.int v :: S)) : Gl p.tables e below P T m pc L (.int y :: .int x :: S) := by
  subst hp; exact Gl.st (fun _ q => iremM W.1 W.2.1 rfl hd rfl hy (by rw [hv]; exact q)) K
theorem o_iinc (W : Wk p l e R s m args below meth c own Z hb ws I T h locs cells slots) {k : Nat} {i : Int} {x v : Int32} {L' : Array Slot} (hd : decode c.code pc = .ok (.iinc k i, 3)) (hl : L[k]? = some (.val (.int x))) (hv : x + Int32.ofInt i = v) (hl' : storeLocals L k (.int v) = some L') (hp : pc + 3 = pc') (K : Gl p.tables e below P T m pc' L' S) : Gl p.tables e below P T m pc L S := by
  subst hp; exact Gl.st (fun _ q => XS.iinc W.1.here W.2.1 rfl hd hl (by rw [hv]; exact hl') q) K
theorem o_dup (W : Wk p l e R s m args below meth c own Z hb ws I T h locs cells slots) {x : Value} (hd : decode c.code pc = .ok (.dup, 1)) (hc : x.category = 1) (hp : pc + 1 = pc') (K : Gl p.tables e below P T m pc' L (x :: x :: S)) : Gl p.tables e below P T m pc L (x :: S) := by
  subst hp; exact Gl.st (fun _ q => XS.dup W.1.here W.2.1 rfl hd rfl hc q) K
theorem o_dupX1 (W : Wk p l e R s m args below meth c own Z hb ws I T h locs cells slots) {x y : Value} (hd : decode c.code pc = .ok (.dup_x1, 1)) (hc : x.category = 1) (hc' : y.category = 1) (hp : pc + 1 = pc') (K : Gl p.tables e below P T m pc' L (x :: y :: x :: S)) : Gl p.tables e below P T m pc L (x :: y :: S) := by
  subst hp; exact Gl.st (fun _ q => XS.dupX1 W.1.here W.2.1 rfl hd rfl hc hc' q) K
theorem o_pop (W : Wk p l e R s m args below meth c own Z hb ws I T h locs cells slots) {x : Value} (hd : decode c.code pc = .ok (.pop, 1)) (hc : x.category = 1) (hp : pc + 1 = pc') (K : Gl p.tables e below P T m pc' L S) : Gl p.tables e below P T m pc L (x :: S) := by
  subst hp; exact Gl.st (fun _ q => XS.pop W.1.here W.2.1 rfl hd rfl hc q) K
theorem o_goto (W : Wk p l e R s m args below meth c own Z hb ws I T h locs cells slots) {o : Int} (hd : decode c.code pc = .ok (.goto o, 3)) (ho : 0 ≤ (pc : Int) + o) (hp : ((pc : Int) + o).toNat = pc') (K : Gl p.tables e below P T m pc' L S) : Gl p.tables e below P T m pc L S := by
  exact Gl.st (fun _ q => XS.goto W.1.here W.2.1 rfl (pc0 := pc) rfl hd ho hp q) K
theorem o_ifY (W : Wk p l e R s m args below meth c own Z hb ws I T h locs cells slots) {o : Int} {cd : ClassFile.Cond} {x : Int32} (hd : decode c.code pc = .ok (.ifCond cd o, 3)) (hc : ifCond.holds cd x = true) (ho : 0 ≤ (pc : Int) + o) (hp : ((pc : Int) + o).toNat = pc') (K : Gl p.tables e below P T m pc' L S) : Gl p.tables e below P T m pc L (.int x :: S) := by
  exact Gl.st (fun _ q => XS.ifYes W.1.here W.2.1 rfl (pc0 := pc) rfl hd rfl hc ho hp q) K
theorem o_ifN (W : Wk p l e R s m args below meth c own Z hb ws I T h locs cells slots) {o : Int} {cd : ClassFile.Cond} {x : Int32} (hd : decode c.code pc = .ok (.ifCond cd o, 3)) (hc : ifCond.holds cd x = false) (hp : pc + 3 = pc') (K : Gl p.tables e below P T m pc' L S) : Gl p.tables e below P T m pc L (.int x :: S) := by
  subst hp; exact Gl.st (fun _ q => XS.ifNo W.1.here W.2.1 rfl hd rfl hc q) K
theorem o_icmpY (W : Wk p l e R s m args below meth c own Z hb ws I T h locs cells slots) {o : Int} {cd : ClassFile.Cond} {x y : Int32} (hd : decode c.code pc = .ok (.if_icmp cd o, 3)) (hc : if_icmp.holds cd x y = true) (ho : 0 ≤ (pc : Int) + o) (hp : ((pc : Int) + o).toNat = pc') (K : Gl p.tables e below P T m pc' L S) : Gl p.tables e below P T m pc L (.int y :: .int x :: S) := by
  exact Gl.st (fun _ q => XS.icmpYes W.1.here W.2.1 rfl (pc0 := pc) rfl hd rfl hc ho hp q) K
theorem o_icmpN (W : Wk p l e R s m args below meth c own Z hb ws I T h locs cells slots) {o : Int} {cd : ClassFile.Cond} {x y : Int32} (hd : decode c.code pc = .ok (.if_icmp cd o, 3)) (hc : if_icmp.holds cd x y = false) (hp : pc + 3 = pc') (K : Gl p.tables e below P T m pc' L S) : Gl p.tables e below P T m pc L (.int y :: .int x :: S) := by
  subst hp; exact Gl.st (fun _ q => XS.icmpNo W.1.here W.2.1 rfl hd rfl hc q) K
theorem o_ifnonnullY (W : Wk p l e R s m args below meth c own Z hb ws I T h locs cells slots) {o : Int} {b : Addr} (hd : decode c.code pc = .ok (.ifnonnull o, 3)) (ho : 0 ≤ (pc : Int) + o) (hp : ((pc : Int) + o).toNat = pc') (K : Gl p.tables e below P T m pc' L S) : Gl p.tables e below P T m pc L (.ref b :: S) := by
  exact Gl.st (fun _ q => XS.ifnonnullYes W.1.here W.2.1 rfl (pc0 := pc) rfl hd rfl ho hp q) K
theorem o_acmpY (W : Wk p l e R s m args below meth c own Z hb ws I T h locs cells slots) {o : Int} {cd : ClassFile.ACond} {x y : Value} (hd : decode c.code pc = .ok (.if_acmp cd o, 3)) (h1 : x.isRef = true) (h2 : y.isRef = true) (hc : XT.acmp cd x y = true) (ho : 0 ≤ (pc : Int) + o) (hp : ((pc : Int) + o).toNat = pc') (K : Gl p.tables e below P T m pc' L S) : Gl p.tables e below P T m pc L (y :: x :: S) := by
  exact Gl.st (fun _ q => XT.acmpYes W.1.here W.2.1 rfl (pc0 := pc) rfl hd rfl h1 h2 hc ho hp q) K
theorem o_acmpN (W : Wk p l e R s m args below meth c own Z hb ws I T h locs cells slots) {o : Int} {cd : ClassFile.ACond} {x y : Value} (hd : decode c.code pc = .ok (.if_acmp cd o, 3)) (h1 : x.isRef = true) (h2 : y.isRef = true) (hc : XT.acmp cd x y = false) (hp : pc + 3 = pc') (K : Gl p.tables e below P T m pc' L S) : Gl p.tables e below P T m pc L (y :: x :: S) := by
  subst hp; exact Gl.st (fun _ q => XT.acmpNo W.1.here W.2.1 rfl hd rfl h1 h2 hc q) K
theorem o_getF (W : Wk p l e R s m args below meth c own Z hb ws I T h locs cells slots) {R0 O n d : String} {index : Nat} (w : (Cond.fieldLink own index R0 n d).before a0 Z = true) (via : Via Z R0 O n d) {a : Addr} {v : Value} (F : Fld Z h a O n d v) (hd : decode c.code pc = .ok (.getfield index, 3)) (hp : pc + 3 = pc')
    (K : ∀ T', Wk p l e R s m args below meth c own Z hb ws I T' h locs cells slots → Gl p.tables e below P T' m pc' L (v :: S)) : Gl p.tables e below P T m pc L (.ref a :: S) := by
  subst hp
  obtain ⟨X, hx, eT, hZ, ho, r⟩ := W
  obtain ⟨T', X', e', st⟩ := getF X hx hZ ho (host := "") (Or.inl w) via eT F (g := mkF m pc L (.ref a :: S)) rfl rfl hd
  exact Gl.st st (K T' ⟨X', hx, e', hZ, ho, r⟩)
theorem o_getS (W : Wk p l e R s m args below meth c own Z hb ws I T h locs cells slots) {R0 O n d : String} {index : Nat} (w : (Cond.fieldLink own index R0 n d).before a0 Z = true) (via : Via Z R0 O n d) {v : Value} (F : Sta Z h O n d v) (hd : decode c.code pc = .ok (.getstatic index, 3)) (hp : pc + 3 = pc')
    (K : ∀ T', Wk p l e R s m args below meth c own Z hb ws I T' h locs cells slots → Gl p.tables e below P T' m pc' L (v :: S)) : Gl p.tables e below P T m pc L S := by
  subst hp
  obtain ⟨X, hx, eT, hZ, ho, r⟩ := W
  obtain ⟨T', X', e', st⟩ := getS (host := "") X hx hZ ho w via eT F (g := mkF m pc L S) rfl hd
  exact Gl.st st (K T' ⟨X', hx, e', hZ, ho, r⟩)
theorem o_putF (W : Wk p l e R s m args below meth c own Z hb ws I T h locs cells slots) {R0 O n d C : String} {index kk : Nat} {ty : FieldType} (w : (Cond.fieldLink own index R0 n d).before a0 Z = true) (via : Via Z R0 O n d) {a : Addr} {v v' old : Value} (F : Fld Z h a O n d old) (E : Exa Z h a C)
    (Lz : (Cond.lays C O n d).before a0 Z = true ∨ ((Cond.laysFinal C O n d).before a0 Z = true ∧ own = O ∧ meth.name = "<init>")) (wi : (Cond.instantiable C kk).before a0 Z = true) (hty : parseFieldDescriptor d = some ty) (hn : narrow ty v = v') (hf : fits ty v' = true)
    (g1 : Z.heap.size ≤ a) (g2 : a ∈ ws ∨ hb.size ≤ a) (hI : ∀ h', Wr h h' a (Jvm.RoadKit.slotOf Z O n d) v' → I h') (hd : decode c.code pc = .ok (.putfield index, 3)) (hp : pc + 3 = pc')
    (K : ∀ T' h' locs', Wk p l e R s m args below meth c own Z hb ws I T' h' locs' cells slots → Wr h h' a (Jvm.RoadKit.slotOf Z O n d) v' → Gl p.tables e below P T' m pc' L S) : Gl p.tables e below P T m pc L (v :: .ref a :: S) := by
  subst hp
  obtain ⟨X, hx, eT, hZ, ho, o, fr, kp, i⟩ := W
  obtain ⟨T', h', X', e', Wr', st⟩ := putFN X hx hZ ho w via eT F E Lz wi hty hn hf (g := mkF m pc L (v :: .ref a :: S)) rfl rfl hd
  exact Gl.st st (K T' h' _ ⟨X', hx, e', hZ, ho, o.wr Wr' g1, Fr.snoc X' fr g1, kp.wr Wr' g2, hI _ Wr'⟩ Wr')
theorem o_new (W : Wk p l e R s m args below meth c own Z hb ws I T h locs cells slots) {C : String} {index n : Nat} (w : (Cond.classLink own index C).before a0 Z = true) (wi : (Cond.instantiable C n).before a0 Z = true) (wz : (Cond.initialized C).before a0 Z = true) (hI : ∀ h', Ext h h' → I h')
    (hd : decode c.code pc = .ok (.new index, 3)) (hp : pc + 3 = pc') (hc' : cells + 1 = cells') (hs' : slots + n = slots') (hc : cells' ≤ R.cells) (hs : slots' ≤ R.slots)
    (K : ∀ b T' h', Wk p l e R s m args below meth c own Z hb ws I T' h' locs cells' slots' → Ext h h' → h.size ≤ b → Z.heap.size ≤ b → hb.size ≤ b → Exa Z h' b C → (∀ {O nm d : String} {ty : FieldType}, Laid Z a0 C O nm d → parseFieldDescriptor d = some ty → Fld Z h' b O nm d (defaultValue ty)) → Gl p.tables e below P T' m pc' L (.ref b :: S)) : Gl p.tables e below P T m pc L S := by
  subst hp hc' hs'
  obtain ⟨X, hx, eT, hZ, ho, o, fr, kp, i⟩ := W
  obtain ⟨T', h', X', e', E, A, D, -, st⟩ := newO X hx hZ ho w wi wz eT (g := mkF m pc L S) rfl hd hc hs
  exact Gl.st st (K _ T' h' ⟨X', hx, e', hZ, ho, o.ext E, fr, kp.ext E, hI _ E⟩ E (Nat.le_refl _) o.2.1 kp.1 A D)
theorem o_newP (W : Wk p l e R s m args below meth c own Z hb ws I T h locs cells slots) {aty : ArrayType} (w : (Cond.arrayClass (newarray.typeOf aty)).before a0 Z = true) (hI : ∀ h', Ext h h' → I h') {n : Int32} (hn : ¬ n < 0) {cap : Nat} (hcap : n.toNatClampNeg ≤ cap) (hb8 : cap * 8 ≤ 536870912)
    (hd : decode c.code pc = .ok (.newarray aty, 2)) (hp : pc + 2 = pc') (hc' : cells + 1 = cells') (hs' : slots + cap = slots') (hc : cells' ≤ R.cells) (hs : slots' ≤ R.slots) {vs : List Value} {dv : Value} (hdv : defaultValue (newarray.typeOf aty) = dv) (hv : vs = List.replicate vs.length dv)
    (K : ∀ b T' h' k, Wk p l e R s m args below meth c own Z hb ws I T' h' locs cells' slots' → Ext h h' → h.size ≤ b → Z.heap.size ≤ b → hb.size ≤ b → Arv Z h' b k (newarray.typeOf aty) n vs dv → Gl p.tables e below P T' m pc' L (.ref b :: S)) : Gl p.tables e below P T m pc L (.int n :: S) := by
  subst hp hc' hs' hdv
  obtain ⟨X, hx, eT, hZ, ho, o, fr, kp, i⟩ := W
  obtain ⟨T', h', k, X', e', E, A, st⟩ := newP X hx hZ w eT (g := mkF m pc L (.int n :: S)) rfl hd rfl hn hcap hb8 hc hs
  exact Gl.st st (K _ T' h' k ⟨X', hx, e', hZ, ho, o.ext E, fr, kp.ext E, hI _ E⟩ E (Nat.le_refl _) o.2.1 kp.1 ((Arv.new A hn).pad (by rw [hv]; exact pad_rep [] _ _)))
theorem o_len (W : Wk p l e R s m args below meth c own Z hb ws I T h locs cells slots) {a : Addr} {k : ClassId} {ty : FieldType} {z : Int32} {vs : List Value} {dv : Value} (V : Arv Z h a k ty z vs dv) (hd : decode c.code pc = .ok (.arraylength, 1)) (hp : pc + 1 = pc')
    (K : Gl p.tables e below P T m pc' L (.int z :: S)) : Gl p.tables e below P T m pc L (.ref a :: S) := by
  subst hp
  obtain ⟨X, hx, eT, hZ, ho, r⟩ := W
  obtain ⟨cl, A, -, Sz, N, -⟩ := V
  refine Gl.st (X.arraylength hx (by rw [eT]; exact A.1) (State.isArrayOf_alike hZ.alike A.2.1) (g := mkF m pc L (.ref a :: S)) rfl rfl hd) ?_
  rw [len_of Sz N]; exact K
theorem own_inb {z j : Int32} {c : Cell} {i : Nat} (Sz : c.slots.size = z.toNatClampNeg) (hj : j.toNatClampNeg = i) (hj0 : ¬ j < 0) (hi : i < z.toNatClampNeg) : ¬ (j < 0 ∨ c.slots.size ≤ j.toNatClampNeg) := by
  rintro (q | q)
  · exact hj0 q
  · rw [Sz, hj] at q; omega
theorem o_stC (W : Wk p l e R s m args below meth c own Z hb ws I T h locs cells slots) {a : Addr} {k : ClassId} {z : Int32} {vs vs' : List Value} {dv : Value} (V : Arv Z h a k .char z vs dv) {j x x' : Int32} {i : Nat} (hj : j.toNatClampNeg = i) (hj0 : ¬ j < 0) (hi : i < z.toNatClampNeg) (hi' : i < vs.length) (hx' : nar .char x = x') (hv : vs.set i (.int x') = vs')
    (g1 : Z.heap.size ≤ a) (g2 : a ∈ ws ∨ hb.size ≤ a) (hI : ∀ h', Wr h h' a i (.int x') → I h') (hd : decode c.code pc = .ok (.castore, 1)) (hp : pc + 1 = pc')
    (K : ∀ T' h' locs', Wk p l e R s m args below meth c own Z hb ws I T' h' locs' cells slots → Wr h h' a i (.int x') → Arv Z h' a k .char z vs' dv → Gl p.tables e below P T' m pc' L S) : Gl p.tables e below P T m pc L (.int x :: .int j :: .ref a :: S) := by
  subst hp hx' hv
  obtain ⟨X, hx, eT, hZ, ho, o, fr, kp, i'⟩ := W
  obtain ⟨cl, A, q, Sz, N, H, G⟩ := V
  obtain ⟨T', h', X', e', Wr', st⟩ := stC X hx hZ eT A (own_inb Sz hj hj0 hi) (g := mkF m pc L (.int x :: .int j :: .ref a :: S)) rfl rfl hd
  have V' := Arv.set A q Sz N H G (fits_nar_char x) Wr' i hj hi'
  subst hj
  exact Gl.st st (K T' h' _ ⟨X', hx, e', hZ, ho, o.wr Wr' g1, Fr.snoc X' fr g1, kp.wr Wr' g2, hI _ Wr'⟩ Wr' V')
theorem o_stR (W : Wk p l e R s m args below meth c own Z hb ws I T h locs cells slots) {a : Addr} {k : ClassId} {z : Int32} {ty : FieldType} {vs vs' : List Value} {dv : Value} (V : Arv Z h a k ty z vs dv) {j : Int32} {v : Value} {i : Nat} (hty : ty.isReference = true) (hfv : fits ty v = true) (F : Sto Z h a v) (hj : j.toNatClampNeg = i) (hj0 : ¬ j < 0) (hi : i < z.toNatClampNeg) (hi' : i < vs.length) (hv : vs.set i v = vs')
    (g1 : Z.heap.size ≤ a) (g2 : a ∈ ws ∨ hb.size ≤ a) (hI : ∀ h', Wr h h' a i v → I h') (hd : decode c.code pc = .ok (.aastore, 1)) (hp : pc + 1 = pc')
    (K : ∀ T' h' locs', Wk p l e R s m args below meth c own Z hb ws I T' h' locs' cells slots → Wr h h' a i v → Arv Z h' a k ty z vs' dv → Gl p.tables e below P T' m pc' L S) : Gl p.tables e below P T m pc L (v :: .int j :: .ref a :: S) := by
  subst hp hv
  obtain ⟨X, hx, eT, hZ, ho, o, fr, kp, i'⟩ := W
  obtain ⟨cl, A, q, Sz, N, H, G⟩ := V
  obtain ⟨T', h', X', e', Wr', st⟩ := stR X hx hZ eT A (own_inb Sz hj hj0 hi) hty F (g := mkF m pc L (v :: .int j :: .ref a :: S)) rfl rfl hd
  have V' := Arv.set A q Sz N H G hfv Wr' i hj hi'
  subst hj
  exact Gl.st st (K T' h' _ ⟨X', hx, e', hZ, ho, o.wr Wr' g1, Fr.snoc X' fr g1, kp.wr Wr' g2, hI _ Wr'⟩ Wr' V')
theorem o_aaload (W : Wk p l e R s m args below meth c own Z hb ws I T h locs cells slots) {a : Addr} {k : ClassId} {ty : FieldType} {z : Int32} {vs : List Value} {dv v : Value} (V : Arv Z h a k ty z vs dv) (hty : ty.isReference = true) {j : Int32} {i : Nat} (hj : j.toNatClampNeg = i) (hj0 : ¬ j < 0) (hi : i < z.toNatClampNeg) (hv : vs.getD i dv = v) (hd : decode c.code pc = .ok (.aaload, 1)) (hp : pc + 1 = pc')
    (K : Gl p.tables e below P T m pc' L (v :: S)) : Gl p.tables e below P T m pc L (.int j :: .ref a :: S) := by
  subst hp hj
  obtain ⟨X, hx, eT, hZ, ho, r⟩ := W
  obtain ⟨cl, A, -, Sz, N, H, -⟩ := V
  have hin := own_inb Sz rfl hj0 hi
  exact Gl.st (X.aaload hx (by rw [eT]; exact A.1) (State.isArrayOf_alike hZ.alike A.2.1) hty A.2.2 hin (H.at hin hv) (g := mkF m pc L (.int j :: .ref a :: S)) rfl rfl hd) K
theorem o_cast (W : Wk p l e R s m args below meth c own Z hb ws I T h locs cells slots) {K0 : String} {index : Nat} (w : (Cond.classLink own index K0).before a0 Z = true) {a : Addr} (F : Ins Z h a K0 true) (hd : decode c.code pc = .ok (.checkcast index, 3)) (hp : pc + 3 = pc')
    (K : ∀ T', Wk p l e R s m args below meth c own Z hb ws I T' h locs cells slots → Gl p.tables e below P T' m pc' L (.ref a :: S)) : Gl p.tables e below P T m pc L (.ref a :: S) := by
  subst hp
  obtain ⟨X, hx, eT, hZ, ho, r⟩ := W
  obtain ⟨T', X', e', st⟩ := castY X hx hZ ho w eT F (g := mkF m pc L (.ref a :: S)) rfl rfl hd
  exact Gl.st st (K T' ⟨X', hx, e', hZ, ho, r⟩)
theorem o_ldcI (W : Wk p l e R s m args below meth c own Z hb ws I T h locs cells slots) {index : Nat} {v : Int32} (w : (Cond.constant own index v).before a0 Z = true) (hd : decode c.code pc = .ok (.ldc index, 2)) (hp : pc + 2 = pc') (K : Gl p.tables e below P T m pc' L (.int v :: S)) : Gl p.tables e below P T m pc L S := by
  subst hp
  exact Gl.st (W.1.ldcInt W.2.1 W.2.2.2.2.1 (mvT W.2.2.2.1 w) (g := mkF m pc L S) rfl hd) K
theorem o_initO (W : Wk p l e R s m args below meth c own Z hb ws I T h locs cells slots) {idx : Nat} (w1 : (Cond.methodLink own idx Lib.objectInit).before a0 Z = true) (w2 : (Cond.instanceMethod Lib.objectInit).before a0 Z = true) (w3 : (Cond.code Lib.objectInit ⟨#[0xb1]⟩ 1 none).before a0 Z = true) {a : Addr} (hml : L.size = c.maxLocals)
    (hd : decode c.code pc = .ok (.invokespecial idx, 3)) (hp : pc + 3 = pc') (hf : 1 ≤ R.frames) (Wd : Nat) (hW : 2 * 0 + (S.map fun v => v.category).sum ≤ Wd) (hl : Wd + 12 ≤ R.locals)
    (K : ∀ T', Wk p l e R s m args below meth c own Z hb ws I T' h locs cells slots → Gl p.tables e below P T' m pc' L S) : Gl p.tables e below P T m pc L (.ref a :: S) := by
  subst hp
  obtain ⟨X, hx, eT, hZ, ho, r⟩ := W
  obtain ⟨T', X', e', st⟩ := initO X hx hZ ho w1 w2 w3 eT (g := mkF m pc L (.ref a :: S)) rfl hml rfl hd hf hW hl
  exact Gl.st st (K T' ⟨X', hx, e', hZ, ho, r⟩)
abbrev BackQ (l : Launch) (R : Room) (p : Program) (e : Env) (below : List Frame) (s : State) (args : Array Value) (y : MethodName) (len Wd : Nat) (as' : Array Value) (h : Heap) (kc ks : Nat) (Q : Option Value → Heap → List Loc → Prop) : Prop :=
  Back l R p e below s args y len Wd (fun A a => a = as' ∧ A.U.heap = h ∧ A.cells + kc ≤ R.cells ∧ A.slots + ks ≤ R.slots) (fun A _ v B => ∃ L, Q v B.U.heap L ∧ B.locs = A.locs ++ L ∧ B.cells = A.cells + kc ∧ B.slots = A.slots + ks)
theorem o_after (W : Wk p l e R s m args below meth c own Z hb ws I T h locs cells slots) {B : Pt} {v : Option Value} {kc ks : Nat} {Q : Option Value → Heap → List Loc → Prop} {wy : List Addr} (X' : Stand p l e R s m args below meth c B.U B.locs B.cells B.slots) (hpost : ∃ L, Q v B.U.heap L ∧ B.locs = locs ++ L ∧ B.cells = cells + kc ∧ B.slots = slots + ks)
    (hq : ∀ v hh L, Q v hh L → Fr Z.heap.size L ∧ Keep h hh wy) (hg : ∀ x ∈ wy, Z.heap.size ≤ x ∧ (x ∈ ws ∨ hb.size ≤ x)) (hI : ∀ h', Keep h h' wy → I h') :
    ∃ L, Q v B.U.heap L ∧ Keep h B.U.heap wy ∧ Wk p l e R s m args below meth c own Z hb ws I B.U B.U.heap (locs ++ L) (cells + kc) (slots + ks) := by
  obtain ⟨X, hx, eT, hZ, ho, o, fr, kp, i⟩ := W
  obtain ⟨⟨U, lo, kc', ks'⟩, rfl⟩ : ∃ B', B' = B := ⟨_, rfl⟩
  obtain ⟨L', q, e1, e2, e3⟩ := hpost
  have e1 : lo = locs ++ L' := e1
  have e2 : kc' = cells + kc := e2
  have e3 : ks' = slots + ks := e3
  subst e1 e2 e3
  obtain ⟨f, k⟩ := hq _ _ _ q
  exact ⟨L', q, k, X', hx, rfl, hZ, ho, o.keep k (fun x hx => (hg x hx).1), fr.app f, kp.trans k (fun x hx => (hg x hx).2), hI _ k⟩
theorem o_static (W : Wk p l e R s m args below meth c own Z hb ws I T h locs cells slots) {index : Nat} {y : MethodName} {bytes : ByteArray} {maxL : Nat} {ret : Option FieldType} (w1 : (Cond.methodLink own index y).before a0 Z = true) (w2 : (Cond.static y).before a0 Z = true) (w3 : (Cond.initialized y.cls).before a0 Z = true) (w4 : (Cond.code y bytes maxL ret).before a0 Z = true)
    (hy : y.cls ≠ "java/lang/invoke/MethodHandle" ∧ y.cls ≠ "java/lang/invoke/VarHandle") {Wd kc ks : Nat} {Q : Option Value → Heap → List Loc → Prop} {argsL : List Value} (B : BackQ l R p e below s args y 3 Wd argsL.toArray h kc ks Q) (hml : L.size = c.maxLocals)
    (hlen : ∀ sig, parseMethodDescriptor y.desc = some sig → argsL.length = sig.parameters.length) {S0 : List Value} (hS : S0 = argsL.reverse ++ S) (hW : 2 * 0 + (S.map fun v => v.category).sum ≤ Wd) (hd : decode c.code pc = .ok (.invokestatic index, 3)) (hp : pc + 3 = pc')
    (hc' : cells + kc = cells') (hs' : slots + ks = slots') (hc : cells' ≤ R.cells) (hs : slots' ≤ R.slots) {wy : List Addr} (hq : ∀ v hh L, Q v hh L → Fr Z.heap.size L ∧ Keep h hh wy) (hg : ∀ x ∈ wy, Z.heap.size ≤ x ∧ (x ∈ ws ∨ hb.size ≤ x)) (hI : ∀ h', Keep h h' wy → I h')
    (K : ∀ v T' h' Lc, Wk p l e R s m args below meth c own Z hb ws I T' h' (locs ++ Lc) cells' slots' → Keep h h' wy → Q v h' Lc → Gl p.tables e below P T' m pc' L (v.toList ++ S)) : Gl p.tables e below P T m pc L S0 := by
  subst hp hc' hs' hS
  obtain ⟨v, vm₁, B', -, X', hpost, st⟩ := Jvm.LawKit.callS W.1 W.2.1 W.2.2.2.2.1 (mvT W.2.2.2.1 w1) (mvT W.2.2.2.1 w2) (mvT W.2.2.2.1 w3) (mvT W.2.2.2.1 w4) hy B (g := mkF m pc L (argsL.reverse ++ S)) rfl hml hlen rfl hW hd (fun _ _ => ⟨rfl, W.2.2.1, hc, hs⟩)
  obtain ⟨Lc, q, k, W'⟩ := o_after W X' hpost hq hg hI
  exact Gl.st st (K v _ _ Lc W' k q)
theorem o_special (W : Wk p l e R s m args below meth c own Z hb ws I T h locs cells slots) {index : Nat} {y : MethodName} {bytes : ByteArray} {maxL : Nat} (hy1 : y.name = "<init>") (w1 : (Cond.methodLink own index y).before a0 Z = true) (w2 : (Cond.instanceMethod y).before a0 Z = true) (w4 : (Cond.code y bytes maxL none).before a0 Z = true)
    (hy : y.cls ≠ "java/lang/invoke/MethodHandle" ∧ y.cls ≠ "java/lang/invoke/VarHandle") {Wd kc ks : Nat} {Q : Option Value → Heap → List Loc → Prop} {a : Addr} {argsL : List Value} (B : BackQ l R p e below s args y 3 Wd (.ref a :: argsL).toArray h kc ks Q) (hml : L.size = c.maxLocals)
    (hlen : ∀ sig, parseMethodDescriptor y.desc = some sig → argsL.length = sig.parameters.length) {S0 : List Value} (hS : S0 = argsL.reverse ++ .ref a :: S) (hW : 2 * 0 + (S.map fun v => v.category).sum ≤ Wd) (hd : decode c.code pc = .ok (.invokespecial index, 3)) (hp : pc + 3 = pc')
    (hc' : cells + kc = cells') (hs' : slots + ks = slots') (hc : cells' ≤ R.cells) (hs : slots' ≤ R.slots) {wy : List Addr} (hq : ∀ v hh L, Q v hh L → Fr Z.heap.size L ∧ Keep h hh wy) (hg : ∀ x ∈ wy, Z.heap.size ≤ x ∧ (x ∈ ws ∨ hb.size ≤ x)) (hI : ∀ h', Keep h h' wy → I h')
    (K : ∀ v T' h' Lc, Wk p l e R s m args below meth c own Z hb ws I T' h' (locs ++ Lc) cells' slots' → Keep h h' wy → Q v h' Lc → Gl p.tables e below P T' m pc' L (v.toList ++ S)) : Gl p.tables e below P T m pc L S0 := by
  subst hp hc' hs' hS
  obtain ⟨v, vm₁, B', -, X', hpost, st⟩ := W.1.specialBack W.2.1 hy1 W.2.2.2.2.1 (mvT W.2.2.2.1 w1) (mvT W.2.2.2.1 w2) (mvT W.2.2.2.1 w4) hy B (g := mkF m pc L (argsL.reverse ++ .ref a :: S)) rfl hml (Steps.refl _) hlen rfl hW hd (fun _ _ => ⟨rfl, W.2.2.1, hc, hs⟩)
  obtain ⟨Lc, q, k, W'⟩ := o_after W X' hpost hq hg hI
  exact Gl.tr st (K v _ _ Lc W' k q)
theorem o_virtual (W : Wk p l e R s m args below meth c own Z hb ws I T h locs cells slots) {index : Nat} {C : String} {y z : MethodName} (w1 : (Cond.methodLink own index y).before a0 Z = true) (w2 : (Cond.declares y).before a0 Z = true) (hnf : NotFace s y) (w3 : (Cond.selects C y z).before a0 Z = true) (w4 : (Cond.instanceMethod z).before a0 Z = true)
    (hy : y.cls ≠ "java/lang/invoke/MethodHandle" ∧ y.cls ≠ "java/lang/invoke/VarHandle") {Wd kc ks : Nat} {Q : Option Value → Heap → List Loc → Prop} {a : Addr} (E : Exa Z h a C) {argsL : List Value} (B : BackQ l R p e below s args z 3 Wd (.ref a :: argsL).toArray h kc ks Q) (hml : L.size = c.maxLocals)
    (hlen : ∀ sig, parseMethodDescriptor y.desc = some sig → argsL.length = sig.parameters.length) {S0 : List Value} (hS : S0 = argsL.reverse ++ .ref a :: S) (hW : 2 * 0 + (S.map fun v => v.category).sum ≤ Wd) (hd : decode c.code pc = .ok (.invokevirtual index, 3)) (hp : pc + 3 = pc')
    (hc' : cells + kc = cells') (hs' : slots + ks = slots') (hc : cells' ≤ R.cells) (hs : slots' ≤ R.slots) {wy : List Addr} (hq : ∀ v hh L, Q v hh L → Fr Z.heap.size L ∧ Keep h hh wy) (hg : ∀ x ∈ wy, Z.heap.size ≤ x ∧ (x ∈ ws ∨ hb.size ≤ x)) (hI : ∀ h', Keep h h' wy → I h')
    (K : ∀ v T' h' Lc, Wk p l e R s m args below meth c own Z hb ws I T' h' (locs ++ Lc) cells' slots' → Keep h h' wy → Q v h' Lc → Gl p.tables e below P T' m pc' L (v.toList ++ S)) : Gl p.tables e below P T m pc L S0 := by
  subst hp hc' hs' hS
  obtain ⟨cB, kB, q1, q2, q3⟩ := isOf W.2.2.2.1 W.2.2.1 E
  obtain ⟨v, vm₁, B', -, X', hpost, st⟩ := W.1.virtualBack W.2.1 W.2.2.2.2.1 (mvT W.2.2.2.1 w1) (mvT W.2.2.2.1 w2) hnf (mvT W.2.2.2.1 w3) (mvT W.2.2.2.1 w4) hy B q1 q3 (g := mkF m pc L (argsL.reverse ++ .ref a :: S)) rfl hml (Steps.refl _) hlen rfl hW hd (fun _ _ => ⟨rfl, W.2.2.1, hc, hs⟩)
  obtain ⟨Lc, q, k, W'⟩ := o_after W X' hpost hq hg hI
  exact Gl.tr st (K v _ _ Lc W' k q)
theorem o_nf (W : Wk p l e R s m args below meth c own Z hb ws I T h locs cells slots) {C : String} {y z : MethodName} (hyz : y = z) (w : (Cond.selects C y z).before a0 Z = true) : NotFace s y := by
  subst hyz
  exact notFace_of_selects (args := #[]) (mvT W.2.2.2.1 w)
def CtrN (l : Launch) (Z : State) (y : MethodName) (bytes : ByteArray) (maxL : Nat) (ret : Option FieldType) (xs : List Jvm.Cond) (rm : Room) (as' : Array Value) (h0 : Heap) (wy : List Addr) (Q : Option Value → Heap → Prop) : Prop :=
  MetFree l y (head1 (Jvm.Cond.code y bytes maxL ret :: xs) rm) (fun a U => a = as' ∧ Z.Warmed39 U.vm ∧ U.heap = h0) (fun _ _ _ _ _ => True) (fun _ U o U' => ∃ v L, o = .returned v ∧ (Fr Z.heap.size L ∧ Keep h0 U'.heap wy ∧ Q v U'.heap) ∧ FrameEnd U o U' L rm.cells rm.slots)
def PN (s : State) (Z : State) (below : List Frame) (h0 : Heap) (wy : List Addr) (rm : Room) (Q : Option Value → Heap → Prop) (s₂ : State) (o : Outcome) : Prop := s₂.status = .running ∧ Ended s₂ below o ∧ ∃ v L, o = .returned v ∧ (Fr Z.heap.size L ∧ Keep h0 s₂.heap wy ∧ Q v s₂.heap) ∧ FrameEnd s o s₂ L rm.cells rm.slots
theorem own_entry {as : List Value} {n : Nat} {Ls : List Slot} (h : Jvm.Sym.laidSlots as ++ List.replicate (n - (Jvm.Sym.laidSlots as).length) Slot.unset = Ls) (m : MethodId) : entryFrame m as.toArray n = mkF m 0 Ls.toArray [] := by
  have e : argsToLocals as.toArray n = Ls.toArray := Array.toList_inj.mp ((Jvm.Sym.argsToLocals_toList _ _).trans h)
  exact congrArg (fun L => mkF m 0 L []) e
theorem CtrN.intro {y : MethodName} {bytes : ByteArray} {maxL : Nat} {ret : Option FieldType} {xs : List Jvm.Cond} {rm : Room} {as' : Array Value} {h0 : Heap} {wy : List Addr} {Q : Option Value → Heap → Prop} {L0 : Array Slot} (hx : plainFor y = true) (O : Old Z Z.heap.size h0) (hef : ∀ m, entryFrame m as' maxL = mkF m 0 L0 [])
    (body : ∀ (p : Program) (e : Env) (s : State) (m : MethodId) (below : List Frame) (meth : Method) (c : Code) (T : State), c.code = bytes → c.maxLocals = maxL → meth.sig.returnType = ret → meth.locks = false → meth.name = y.name → Wk p l e rm s m as' below meth c y.cls Z h0 wy (fun _ => True) T h0 [] 0 0 → Gl p.tables e below (PN s Z below h0 wy rm Q) T m 0 L0 []) :
    CtrN l Z y bytes maxL ret xs rm as' h0 wy Q := by
  refine MetFree.of_bodySF hx hisR ?_
  intro p e s m args below meth c s₁ Bd hml hP hK
  obtain ⟨rfl, hZ, hh⟩ := hP
  have e0 : s₁.heap = h0 := by rw [← hh, Bd.state]; rfl
  obtain ⟨s2, o, g1, g2, g3, g4⟩ := body p e s m below meth c s₁ Bd.bytes hml Bd.returns Bd.notSynchronized (name_of_methodNamed Bd.named Bd.method).1 ⟨Stand.of_body Bd, Bd.exec, e0, hZ, findClass_of_methodNamed Bd.named, O, Fr.nil _, Keep.refl _ _, trivial⟩
  exact ⟨s2, o, castTop (hef m) g1, g2, g3, g4⟩
theorem CtrN.back {y : MethodName} {bytes : ByteArray} {maxL : Nat} {ret : Option FieldType} {rm : Room} {as' : Array Value} {wy : List Addr} {Q : Option Value → Heap → Prop} {len Wd : Nat} (W : Wk p l e R s m args below meth c own Z hb ws I T h locs cells slots) (C : CtrN l Z y bytes maxL ret [] rm as' h wy Q) (wc : (Cond.code y bytes maxL ret).before a0 Z = true) (wz : (Cond.initialized y.cls).before a0 Z = true)
    (hf : rm.frames + 1 ≤ R.frames) (hl : Wd + (maxL + 11) + rm.locals ≤ R.locals) : BackQ l R p e below s args y len Wd as' h rm.cells rm.slots (fun v hh L => Fr Z.heap.size L ∧ Keep h hh wy ∧ Q v hh) :=
  backOf (Q := fun v hh L => Fr Z.heap.size L ∧ Keep h hh wy ∧ Q v hh) C W.2.2.2.1 wc wz hf hl
theorem o_leaveN {y0 : List Addr} {Q : Option Value → Heap → Prop} {rm : Room} (W : Wk p l e rm s m args below meth c own Z hb ws I T h locs cells slots) (hlk : meth.locks = false) {v : Option Value} (hv : meth.sig.returnType = none → v = none) (hq : Q v h) (hc : cells ≤ rm.cells) (hs : slots ≤ rm.slots) (st : ∀ fs, (∀ (f : JFrame) (acts : List Action), f.method = m → f.locked = none → f.entered = [] → (doReturn e (T.setTop f) acts v).1 = T.setFrames fs) → Steps p.tables e below (T.setTop (mkF m pc L S)) (T.setFrames fs)) :
    Gl p.tables e below (PN s Z below hb ws rm Q) T m pc L S := by
  obtain ⟨X, hx, eT, hZ, ho, o, fr, kp, i⟩ := W
  obtain ⟨fs, hr, hrun, hended, hW, hsame⟩ := X.leave (v := v) hv
  have eh : (T.setFrames fs).heap = h := eT
  exact ⟨_, _, st fs hr, hrun, hended, v, locs, rfl, ⟨fr, by rw [eh]; exact kp, by rw [eh]; exact hq⟩, ⟨_, rfl⟩, hW, hsame.mono hc hs⟩
theorem o_retI (W : Wk p l e R s m args below meth c own Z hb ws I T h locs cells slots) (hlk : meth.locks = false) {Q : Option Value → Heap → Prop} {z : Int32} (hret : meth.sig.returnType = some .int) (hd : decode c.code pc = .ok (.ireturn, 1)) (hc : cells ≤ R.cells) (hs : slots ≤ R.slots) (hq : Q (some (.int z)) h) : Gl p.tables e below (PN s Z below hb ws R Q) T m pc L (.int z :: S) :=
  o_leaveN (y0 := []) W hlk (fun q => by rw [hret] at q; cases q) hq hc hs fun fs hr => retOut W.1 W.2.1 hret rfl (Or.inl ⟨rfl, Or.inl rfl, _, rfl⟩) hd hr
theorem o_retN (W : Wk p l e R s m args below meth c own Z hb ws I T h locs cells slots) (hlk : meth.locks = false) {Q : Option Value → Heap → Prop} {z z' : Int32} {t : FieldType} (hret : meth.sig.returnType = some t) (ht : t = .boolean ∨ t = .byte ∨ t = .char ∨ t = .short) (hz : nar t z = z') (hd : decode c.code pc = .ok (.ireturn, 1)) (hc : cells ≤ R.cells) (hs : slots ≤ R.slots) (hq : Q (some (.int z')) h) : Gl p.tables e below (PN s Z below hb ws R Q) T m pc L (.int z :: S) := by
  subst hz
  exact o_leaveN (y0 := []) W hlk (fun q => by rw [hret] at q; cases q) hq hc hs fun fs hr => retN W.1 W.2.1 hret ht hd hr
theorem o_retA (W : Wk p l e R s m args below meth c own Z hb ws I T h locs cells slots) (hlk : meth.locks = false) {Q : Option Value → Heap → Prop} {t : FieldType} {v : Value} (hret : meth.sig.returnType = some t) (ht : t.isReference = true) (hv : v.isRef = true) (hd : decode c.code pc = .ok (.areturn, 1)) (hc : cells ≤ R.cells) (hs : slots ≤ R.slots) (hq : Q (some v) h) : Gl p.tables e below (PN s Z below hb ws R Q) T m pc L (v :: S) :=
  o_leaveN (y0 := []) W hlk (fun q => by rw [hret] at q; cases q) hq hc hs fun fs hr => retOut W.1 W.2.1 hret (by cases v <;> first | (cases hv; done) | (cases t <;> first | (cases ht; done) | rfl)) (Or.inr (Or.inr (Or.inr (Or.inr ⟨rfl, ht, hv⟩)))) hd hr
theorem o_ret0 (W : Wk p l e R s m args below meth c own Z hb ws I T h locs cells slots) (hlk : meth.locks = false) {Q : Option Value → Heap → Prop} (hret : meth.sig.returnType = none) (hd : decode c.code pc = .ok (.return_, 1)) (hc : cells ≤ R.cells) (hs : slots ≤ R.slots) (hq : Q none h) : Gl p.tables e below (PN s Z below hb ws R Q) T m pc L [] :=
  o_leaveN (y0 := []) W hlk (fun _ => rfl) hq hc hs fun fs hr => W.1.returnOut W.2.1 hret hd hr
theorem own_fI {args : Array Value} {t : Term} {a : Addr} {C n d : String} {y : Int32} (ev : t.eval args Z none [] Z = some (.ref a)) (h : (Cond.eq (.field t C n d) (.int y)).value args Z none Z [] = some true) : Fld Z Z.heap a C n d (.int y) := by
  have q := eqv_i (Term.int_eval y) h
  rw [fld_at ev] at q
  exact Fld.start q
end OwnPre

section OwnWide
def IW (s : State) (Z : State) (EL : List (String × Nat)) (V : Vm) (h : Heap) : Prop := (∃ k0, s.Since V k0 ∧ k0 ≤ h.size) ∧ CHv Z EL V h ∧ CHr Z EL s.vm s.heap V h
variable {p : Program} {l : Launch} {e : Env} {R : Room} {s : State} {m : MethodId} {args : Array Value} {below : List Frame} {meth : Method} {c : Code} {T : State} {locs : List Loc} {cells slots cells' slots' : Nat} {Z : State} {a0 : Array Value} {h h' hb : Heap} {ws : List Addr} {own : String} {P : State → Outcome → Prop} {pc pc' : Nat} {L L' : Array Slot} {S : List Value} {EL : List (String × Nat)} {V : Vm}
theorem IW.ext (E : Ext h h') (i : IW s Z EL V h) : IW s Z EL V h' := by
  obtain ⟨⟨k0, h1, h2⟩, h3, h4⟩ := i
  exact ⟨⟨k0, h1, Nat.le_trans h2 E.1⟩, h3.ext E, h4.trans (CHr.ext E h3)⟩
theorem IW.wr {a : Addr} {sl : Nat} {v : Value} (W : Wr h h' a sl v) (S : Safe Z EL V h a) (i : IW s Z EL V h) : IW s Z EL V h' := by
  obtain ⟨⟨k0, h1, h2⟩, h3, h4⟩ := i
  exact ⟨⟨k0, h1, by rw [W.size]; exact h2⟩, h3.wr W S, h4.trans (CHr.wr W S h3)⟩
theorem IW.keep {wy : List Addr} (K : Keep h h' wy) (hs : ∀ x ∈ wy, Safe Z EL V h x) (i : IW s Z EL V h) : IW s Z EL V h' := by
  obtain ⟨⟨k0, h1, h2⟩, h3, h4⟩ := i
  exact ⟨⟨k0, h1, Nat.le_trans h2 K.1⟩, h3.keep K hs, h4.trans (CHr.keep K hs h3)⟩
def ELn (Z : State) (a0 : Array Value) (EL : List (String × Nat)) (n : Nat) : Prop := ∀ p ∈ EL, ∃ text : String, (Cond.stringLink p.1 p.2 text).before a0 Z = true ∧ (∀ c ∈ text.toList, c.toNat < 256) ∧ text.toList.length ≠ n
theorem ELn.nil {n : Nat} : ELn Z a0 [] n := fun _ hp => by cases hp
theorem o_ldcO (W : Wk p l e R (s.setVm V) m args below meth c own Z hb ws (IW s Z EL V) T h locs cells slots) {text : String} {index : Nat} (w : (Cond.stringLink own index text).before a0 Z = true) (wS : ∀ a ∈ Bundle.stringAtoms, a.before a0 Z = true) (hEL : EW Z a0 EL) (hd : decode c.code pc = .ok (.ldc index, 2)) (hp : pc + 2 = pc') {n : Nat} (hn : 4 * text.toList.length ≤ n) (hbig : n ≤ 536870912)
    (hc' : cells + 2 = cells') (hs' : slots + (n + 4) = slots') (hc : cells' ≤ R.cells) (hs : slots' ≤ R.slots)
    (K : ∀ a T' h' V', Wk p l e R (s.setVm V') m args below meth c own Z hb ws (IW s Z EL V') T' h' locs cells' slots' → Ext h h' → CHr Z EL V h V' h' → Gl p.tables e below P T' m pc' L (.ref a :: S)) : Gl p.tables e below P T m pc L S := by
  subst hp hc' hs'
  obtain ⟨X, hx, eT, hZ, ho, o, fr, kp, ⟨k0, i1, i2⟩, i3, i4⟩ := W
  obtain ⟨a, T', h', k1, X', e', E, hS, hk, hW, hf, hC, -, st⟩ := ldcOH X hx hZ ho w wS eT i1 i2 hEL i3 (g := mkF m pc L S) rfl hd hn hbig hc hs
  exact Gl.st st (K a T' h' T'.vm ⟨X', hx, e', hW, hf, o.ext E, fr, kp.ext E, ⟨k1, hS, hk⟩, hC.1, i4.trans hC⟩ E hC)
def CtrW (l : Launch) (Z : State) (EL : List (String × Nat)) (y : MethodName) (bytes : ByteArray) (maxL : Nat) (ret : Option FieldType) (xs : List Jvm.Cond) (rm : Room) (as' : Array Value) (h0 : Heap) (wy : List Addr) (Q : Option Value → Heap → Prop) : Prop :=
  MetFree l y (head1 (Jvm.Cond.code y bytes maxL ret :: xs) rm) (fun a U => a = as' ∧ Z.Warmed39 U.vm ∧ U.heap = h0 ∧ CHv Z EL U.vm h0) (fun _ _ _ _ _ => True) (fun _ U o U' => ∃ v L, o = .returned v ∧ (Fr Z.heap.size L ∧ Keep h0 U'.heap wy ∧ Q v U'.heap) ∧ CHr Z EL U.vm U.heap U'.vm U'.heap ∧ ReturnedEndW U o U' L rm.cells rm.slots)
def PW (s : State) (Z : State) (EL : List (String × Nat)) (below : List Frame) (h0 : Heap) (wy : List Addr) (rm : Room) (Q : Option Value → Heap → Prop) (s₂ : State) (o : Outcome) : Prop := s₂.status = .running ∧ Ended s₂ below o ∧ ∃ v L, o = .returned v ∧ (Fr Z.heap.size L ∧ Keep h0 s₂.heap wy ∧ Q v s₂.heap) ∧ CHr Z EL s.vm s.heap s₂.vm s₂.heap ∧ ReturnedEndW s o s₂ L rm.cells rm.slots
theorem CtrW.intro {y : MethodName} {bytes : ByteArray} {maxL : Nat} {ret : Option FieldType} {xs : List Jvm.Cond} {rm : Room} {as' : Array Value} {h0 : Heap} {wy : List Addr} {Q : Option Value → Heap → Prop} {L0 : Array Slot} (hx : plainFor y = true) (O : Old Z Z.heap.size h0) (hef : ∀ m, entryFrame m as' maxL = mkF m 0 L0 [])
    (body : ∀ (p : Program) (e : Env) (s : State) (m : MethodId) (below : List Frame) (meth : Method) (c : Code) (T : State) (V : Vm), c.code = bytes → c.maxLocals = maxL → meth.sig.returnType = ret → meth.locks = false → meth.name = y.name → Wk p l e rm (s.setVm V) m as' below meth c y.cls Z h0 wy (IW s Z EL V) T h0 [] 0 0 → Gl p.tables e below (PW s Z EL below h0 wy rm Q) T m 0 L0 []) :
    CtrW l Z EL y bytes maxL ret xs rm as' h0 wy Q := by
  refine MetFree.of_bodySF hx hisR ?_
  intro p e s m args below meth c s₁ Bd hml hP hK
  obtain ⟨rfl, hZ, hh, hH⟩ := hP
  have e0 : s₁.heap = h0 := by rw [← hh, Bd.state]; rfl
  have hr : CHr Z EL s.vm s.heap s.vm h0 := by rw [hh]; exact CHr.refl hH
  have X : Stand p l e rm (s.setVm s.vm) m args below meth c s₁ [] 0 0 := Stand.of_body Bd
  obtain ⟨s2, o, g1, g2, g3, g4⟩ := body p e s m below meth c s₁ s.vm Bd.bytes hml Bd.returns Bd.notSynchronized (name_of_methodNamed Bd.named Bd.method).1 ⟨X, Bd.exec, e0, hZ, findClass_of_methodNamed Bd.named, O, Fr.nil _, Keep.refl _ _, ⟨0, (State.WarmedH.refl s).since _, Nat.zero_le _⟩, hH, hr⟩
  exact ⟨s2, o, castTop (hef m) g1, g2, g3, g4⟩
abbrev BackSQ (l : Launch) (R : Room) (p : Program) (e : Env) (below : List Frame) (s : State) (args : Array Value) (y : MethodName) (len Wd : Nat) (as' : Array Value) (h : Heap) (kc ks : Nat) (Q : Option Value → Heap → List Loc → Prop) (Z : State) (EL : List (String × Nat)) (V : Vm) : Prop :=
  BackS l R p e below s args y len Wd (fun A a => a = as' ∧ A.U.heap = h ∧ A.cells + kc ≤ R.cells ∧ A.slots + ks ≤ R.slots) (fun A _ v B => ∃ L, Q v B.U.heap L ∧ B.locs = A.locs ++ L ∧ B.cells = A.cells + kc ∧ B.slots = A.slots + ks ∧ CHr Z EL V h B.U.vm B.U.heap)
theorem CtrW.back {y : MethodName} {bytes : ByteArray} {maxL : Nat} {ret : Option FieldType} {rm : Room} {as' : Array Value} {wy : List Addr} {Q : Option Value → Heap → Prop} {len Wd : Nat} (W : Wk p l e R (s.setVm V) m args below meth c own Z hb ws (IW s Z EL V) T h locs cells slots) (C : CtrW l Z EL y bytes maxL ret [] rm as' h wy Q) (wc : (Cond.code y bytes maxL ret).before a0 Z = true) (wz : (Cond.initialized y.cls).before a0 Z = true)
    (hf : rm.frames + 1 ≤ R.frames) (hl : Wd + (maxL + 11) + rm.locals ≤ R.locals) (hEL : EW Z a0 EL) : BackSQ l R p e below (s.setVm V) args y len Wd as' h rm.cells rm.slots (fun v hh L => Fr Z.heap.size L ∧ Keep h hh wy ∧ Q v hh) Z EL V :=
  backOfSH (s := s) (Q := fun v hh L => Fr Z.heap.size L ∧ Keep h hh wy ∧ Q v hh) C W.2.2.2.1 wc wz hf hl hEL W.inv.2.1
theorem o_leaveWW {Q : Option Value → Heap → Prop} (W : Wk p l e R (s.setVm V) m args below meth c own Z hb ws (IW s Z EL V) T h locs cells slots) (hEL : EW Z a0 EL) (hlk : meth.locks = false) {v : Option Value} (hv : meth.sig.returnType = none → v = none) (hq : Q v h) (hc : cells ≤ R.cells) (hs : slots ≤ R.slots) (st : ∀ fs, (∀ (f : JFrame) (acts : List Action), f.method = m → f.locked = none → f.entered = [] → (doReturn e (T.setTop f) acts v).1 = T.setFrames fs) → Steps p.tables e below (T.setTop (mkF m pc L S)) (T.setFrames fs)) :
    Gl p.tables e below (PW s Z EL below hb ws R Q) T m pc L S := by
  obtain ⟨X, hx, eT, hZ, ho, o, fr, kp, ⟨k0, i1, i2⟩, i3, i4⟩ := W
  obtain ⟨fs, hr, hrun, hended, a1, a2, a3, a4⟩ := X.leaveW i1 (by rw [eT]; exact i2) (v := v) hv
  have eh : (T.setFrames fs).heap = h := eT
  have hA := CHv.at X hZ hEL i3
  exact ⟨_, _, st fs hr, hrun, hended, v, locs, rfl, ⟨fr, by rw [eh]; exact kp, by rw [eh]; exact hq⟩, by rw [eh]; exact i4.trans hA, a1, a2, a3, a4.mono hc hs⟩
theorem o_retNW (W : Wk p l e R (s.setVm V) m args below meth c own Z hb ws (IW s Z EL V) T h locs cells slots) (hEL : EW Z a0 EL) (hlk : meth.locks = false) {Q : Option Value → Heap → Prop} {z z' : Int32} {t : FieldType} (hret : meth.sig.returnType = some t) (ht : t = .boolean ∨ t = .byte ∨ t = .char ∨ t = .short) (hz : nar t z = z') (hd : decode c.code pc = .ok (.ireturn, 1)) (hc : cells ≤ R.cells) (hs : slots ≤ R.slots) (hq : Q (some (.int z')) h) : Gl p.tables e below (PW s Z EL below hb ws R Q) T m pc L (.int z :: S) := by
  subst hz
  exact o_leaveWW W hEL hlk (fun q => by rw [hret] at q; cases q) hq hc hs fun fs hr => retN W.1 W.2.1 hret ht hd hr
end OwnWide
section OwnMore
variable {p : Program} {l : Launch} {e : Env} {R : Room} {s : State} {m : MethodId} {args : Array Value} {below : List Frame} {meth : Method} {c : Code} {T : State} {locs : List Loc} {cells slots cells' slots' : Nat} {Z : State} {a0 : Array Value} {h h' hb : Heap} {ws : List Addr} {own : String} {I : Heap → Prop} {P : State → Outcome → Prop} {pc pc' : Nat} {L L' : Array Slot} {S : List Value}
theorem own_selSelf {y : MethodName} {C : String} {args : Array Value} (hy : y.cls ≠ "java/lang/invoke/MethodHandle" ∧ y.cls ≠ "java/lang/invoke/VarHandle") (hs : (Cond.selects C y y).before args s = true) (hi : (Cond.instanceMethod y).before args s = true) (hp : s.PrivateAt y) : (Cond.selects y.cls y y).before args s = true := by
  obtain ⟨c0, r, m0, h1, h2, h3, h4, k, h5, h6⟩ := Cond.selects_spec hs
  obtain ⟨mk, methM, hnamed, hmethM, -, -⟩ := Cond.instanceMethod_spec hi
  cases h3.symm.trans hnamed
  have hpr := hp _ _ hnamed hmethM
  have hc := findClass_of_methodNamed hnamed
  cases (State.methodFound?_of_named hnamed hy).symm.trans h2
  simp [Cond.before, Cond.holds, Cond.value, hc, h2, hnamed, selectMethod_private hmethM hpr, h5, h6]
theorem own_NSr {O K : String} {n : Nat} (w : (Cond.noSuperclass O).before a0 Z = true) (wk : (Cond.instantiable K n).before a0 Z = true) (hn : O ≠ K) : NS Z O K := by
  obtain ⟨c, k, h1, h2, h3, -, -⟩ := Cond.noSuperclass_spec w
  obtain ⟨t, k2, g1, -⟩ := Cond.instantiable_spec wk
  have ne := ids_ne h1 g1 hn
  refine ⟨c, t, h1, g1, fun fuel => ?_⟩
  cases fuel with
  | zero => rfl
  | succ f => simp [Vm.isSubclassAux, ne, h2, h3]
theorem own_NSno {C S0 K : String} {n : Nat} (w : (Cond.superclass C S0).before a0 Z = true) (wk : (Cond.instantiable K n).before a0 Z = true) (ns : NS Z C K) (hn : C ≠ K) : ∃ c t, Z.vm.findClass C = some c ∧ Z.vm.findClass K = some t ∧ Z.vm.assignable c t = false := by
  obtain ⟨c, t, h0, g0, n3⟩ := ns
  obtain ⟨p, k, kp, h1, h2, h3, h4, h5, -, h7⟩ := Cond.superclass_spec h0 w
  obtain ⟨t', k', g1, g2, g5, g6, -⟩ := Cond.instantiable_spec wk
  have g8 : k'.isInterface = false := (Bool.or_eq_false_iff.mp g6).1
  cases g0.symm.trans g1
  have ne := ids_ne h0 g0 hn
  refine ⟨c, t, h0, g0, ?_⟩
  show Z.vm.assignableAux (255 + 1) c t = false
  simp [Vm.assignableAux, ne, h2, g2, h5, g5, g8, Vm.isSubclass, n3]
theorem o_private (W : Wk p l e R s m args below meth c own Z hb ws I T h locs cells slots) {index : Nat} {y : MethodName} {bytes : ByteArray} {maxL : Nat} {ret : Option FieldType} {C K0 : String} (w1 : (Cond.methodLink own index y).before a0 Z = true) (w2 : (Cond.instanceMethod y).before a0 Z = true) (w3 : (Cond.selects C y y).before a0 Z = true) (w4 : (Cond.privateMethod y).before a0 Z = true) (w5 : (Cond.code y bytes maxL ret).before a0 Z = true)
    (hy : y.cls ≠ "java/lang/invoke/MethodHandle" ∧ y.cls ≠ "java/lang/invoke/VarHandle") {Wd kc ks : Nat} {Q : Option Value → Heap → List Loc → Prop} {a : Addr} (E : Exa Z h a K0) {argsL : List Value} (B : BackQ l R p e below s args y 3 Wd (.ref a :: argsL).toArray h kc ks Q) (hml : L.size = c.maxLocals)
    (hlen : ∀ sig, parseMethodDescriptor y.desc = some sig → argsL.length = sig.parameters.length) {S0 : List Value} (hS : S0 = argsL.reverse ++ .ref a :: S) (hW : 2 * 0 + (S.map fun v => v.category).sum ≤ Wd) (hd : decode c.code pc = .ok (.invokevirtual index, 3)) (hp : pc + 3 = pc')
    (hc' : cells + kc = cells') (hs' : slots + ks = slots') (hc : cells' ≤ R.cells) (hs : slots' ≤ R.slots) {wy : List Addr} (hq : ∀ v hh L, Q v hh L → Fr Z.heap.size L ∧ Keep h hh wy) (hg : ∀ x ∈ wy, Z.heap.size ≤ x ∧ (x ∈ ws ∨ hb.size ≤ x)) (hI : ∀ h', Keep h h' wy → I h')
    (K : ∀ v T' h' Lc, Wk p l e R s m args below meth c own Z hb ws I T' h' (locs ++ Lc) cells' slots' → Keep h h' wy → Q v h' Lc → Gl p.tables e below P T' m pc' L (v.toList ++ S)) : Gl p.tables e below P T m pc L S0 := by
  subst hp hc' hs' hS
  obtain ⟨cl, q1, q2⟩ := E.cell
  have hpv : s.PrivateAt y := Cond.privateMethod_at (mvP W.2.2.2.1 w4 (args := #[]))
  obtain ⟨v, vm₁, B', -, X', hpost, st⟩ := W.1.privateBack W.2.1 W.2.2.2.2.1 (mvT W.2.2.2.1 w1) (mvT W.2.2.2.1 w2) (own_selSelf hy (mvT W.2.2.2.1 w3) (mvT W.2.2.2.1 w2) hpv) hpv (mvT W.2.2.2.1 w5) hy B (g := mkF m pc L (argsL.reverse ++ .ref a :: S)) rfl hml (Steps.refl _) (by rw [W.2.2.1]; exact q1) q2 hlen rfl hW hd (fun _ _ => ⟨rfl, W.2.2.1, hc, hs⟩)
  obtain ⟨Lc, q, k, W'⟩ := o_after W X' hpost hq hg hI
  exact Gl.tr st (K v _ _ Lc W' k q)
theorem o_iface (W : Wk p l e R s m args below meth c own Z hb ws I T h locs cells slots) {index count : Nat} {C : String} {y z : MethodName} (w1 : (Cond.methodLink own index y).before a0 Z = true) (w2 : (Cond.declares y).before a0 Z = true) (w3 : (Cond.interfaceMethod y.cls y.cls y.name y.desc).before a0 Z = true) (w4 : (Cond.selects C y z).before a0 Z = true) (w5 : (Cond.instanceMethod z).before a0 Z = true) (w6 : (Cond.publicMethod z).before a0 Z = true) (w7 : (Cond.unhidden C y.name y.desc).before a0 Z = true) (w8 : (Cond.castable C y.cls).before a0 Z = true)
    (hy : y.cls ≠ "java/lang/invoke/MethodHandle" ∧ y.cls ≠ "java/lang/invoke/VarHandle") {Wd kc ks : Nat} {Q : Option Value → Heap → List Loc → Prop} {a : Addr} (E : Exa Z h a C) {argsL : List Value} (B : BackQ l R p e below s args z 5 Wd (.ref a :: argsL).toArray h kc ks Q) (hml : L.size = c.maxLocals)
    (hlen : ∀ sig, parseMethodDescriptor y.desc = some sig → argsL.length = sig.parameters.length) {S0 : List Value} (hS : S0 = argsL.reverse ++ .ref a :: S) (hW : 2 * 0 + (S.map fun v => v.category).sum ≤ Wd) (hd : decode c.code pc = .ok (.invokeinterface index count, 5)) (hp : pc + 5 = pc')
    (hc' : cells + kc = cells') (hs' : slots + ks = slots') (hc : cells' ≤ R.cells) (hs : slots' ≤ R.slots) {wy : List Addr} (hq : ∀ v hh L, Q v hh L → Fr Z.heap.size L ∧ Keep h hh wy) (hg : ∀ x ∈ wy, Z.heap.size ≤ x ∧ (x ∈ ws ∨ hb.size ≤ x)) (hI : ∀ h', Keep h h' wy → I h')
    (K : ∀ v T' h' Lc, Wk p l e R s m args below meth c own Z hb ws I T' h' (locs ++ Lc) cells' slots' → Keep h h' wy → Q v h' Lc → Gl p.tables e below P T' m pc' L (v.toList ++ S)) : Gl p.tables e below P T m pc L S0 := by
  subst hp hc' hs' hS
  obtain ⟨cB, kB, q1, q2, q3⟩ := isOf W.2.2.2.1 W.2.2.1 E
  obtain ⟨v, vm₁, B', -, X', hpost, st⟩ := W.1.interfaceBack W.2.1 W.2.2.2.2.1 (mvT W.2.2.2.1 w1) (mvT W.2.2.2.1 w2) (mvT W.2.2.2.1 w3 (by simp [Cond.onTables, Cond.keepsFace, Cond.keeps, Cond.steady, Cond.faceAtom, hy.1, hy.2])) (mvT W.2.2.2.1 w4) (mvT W.2.2.2.1 w5) (mvT W.2.2.2.1 w6) (mvT W.2.2.2.1 w7) (mvT W.2.2.2.1 w8) hy B q1 q2 q3 (g := mkF m pc L (argsL.reverse ++ .ref a :: S)) rfl hml (Steps.refl _) hlen rfl hW hd (fun _ _ => ⟨rfl, W.2.2.1, hc, hs⟩)
  obtain ⟨Lc, q, k, W'⟩ := o_after W X' hpost hq hg hI
  exact Gl.tr st (K v _ _ Lc W' k q)
theorem o_instN (W : Wk p l e R s m args below meth c own Z hb ws I T h locs cells slots) {C K0 : String} {index : Nat} (w : (Cond.classLink own index K0).before a0 Z = true) {a : Addr} (E : Exa Z h a C) (F : ∃ c t, Z.vm.findClass C = some c ∧ Z.vm.findClass K0 = some t ∧ Z.vm.assignable c t = false) (hd : decode c.code pc = .ok (.instanceof index, 3)) (hp : pc + 3 = pc')
    (K : ∀ T', Wk p l e R s m args below meth c own Z hb ws I T' h locs cells slots → Gl p.tables e below P T' m pc' L (.int 0 :: S)) : Gl p.tables e below P T m pc L (.ref a :: S) := by
  subst hp
  obtain ⟨X, hx, eT, hZ, ho, r⟩ := W
  obtain ⟨T', X', e', st⟩ := instNo X hx hZ ho w eT E F (g := mkF m pc L (.ref a :: S)) rfl rfl hd
  exact Gl.st st (K T' ⟨X', hx, e', hZ, ho, r⟩)
theorem o_copy (W : Wk p l e R s m args below meth c own Z hb ws I T h locs cells slots) {index : Nat} (w1 : (Cond.methodLink own index Jvm.Stand.acN).before a0 Z = true) (w2 : (Cond.native Jvm.Stand.acN).before a0 Z = true) (w3 : (Cond.static Jvm.Stand.acN).before a0 Z = true) (w4 : (Cond.initialized "java/lang/System").before a0 Z = true)
    {a b : Addr} {k k' : ClassId} {ty ty' : FieldType} {z z' sp dp nn : Int32} {vs vd us vd' : List Value} {dv dd : Value} (A : Arv Z h a k ty z vs dv) (B : Arv Z h b k' ty' z' vd dd) (hty : (ty = ty' ∧ refKind ty = false) ∨ (refKind ty = true ∧ refKind ty' = true ∧ StoL Z h b us))
    (h1 : ¬ sp < 0) (h2 : ¬ dp < 0) (h3 : ¬ nn < 0) (h4 : sp.toNatClampNeg + nn.toNatClampNeg ≤ z.toNatClampNeg) (h5 : dp.toNatClampNeg + nn.toNatClampNeg ≤ z'.toNatClampNeg)
    (hus : us = (List.range nn.toNatClampNeg).map fun i => vs.getD (sp.toNatClampNeg + i) dv) (hl : dp.toNatClampNeg + nn.toNatClampNeg ≤ vd.length) (hvd : vd.take dp.toNatClampNeg ++ us ++ vd.drop (dp.toNatClampNeg + nn.toNatClampNeg) = vd')
    (g1 : Z.heap.size ≤ b) (g2 : b ∈ ws ∨ hb.size ≤ b) (hI : ∀ h', Keep h h' [b] → I h') (hml : L.size = c.maxLocals) (hd : decode c.code pc = .ok (.invokestatic index, 3)) (hp : pc + 3 = pc') (hf : 1 ≤ R.frames) (Wd : Nat) (hW : 2 * 0 + (S.map fun v => v.category).sum ≤ Wd) (hlo : Wd + (nativeFrameWords "java/lang/System" "arraycopy" 5 + 11) ≤ R.locals)
    (K : ∀ T' h' locs', Wk p l e R s m args below meth c own Z hb ws I T' h' locs' cells slots → Keep h h' [b] → Arv Z h' b k' ty' z' vd' dd → Gl p.tables e below P T' m pc' L S) : Gl p.tables e below P T m pc L (.int nn :: .int dp :: .ref b :: .int sp :: .ref a :: S) := by
  subst hp hvd
  obtain ⟨X, hx, eT, hZ, ho, o, fr, kp, i⟩ := W
  obtain ⟨T', h', L1, X', e', F', K', V', st⟩ := cpA X hx hZ ho w1 w2 w3 w4 eT A B hty h1 h2 h3 h4 h5 hus hl fr g1 (g := mkF m pc L (.int nn :: .int dp :: .ref b :: .int sp :: .ref a :: S)) rfl hml rfl hd hf hW hlo
  exact Gl.st st (K T' h' _ ⟨X', hx, e', hZ, ho, o.keep K' (allS g1 all0), F', kp.trans K' (allS g2 all0), hI _ K'⟩ K' V')
theorem own_stoV {a y : Addr} {k : ClassId} {ty : FieldType} {z : Int32} {vs : List Value} {dv : Value} {C : String} (V : Arv Z h a k ty z vs dv) (O : Ovr Z k C) (Iy : Ins Z h y C true) : Sto Z h a (.ref y) := by
  obtain ⟨cl, A, q, -⟩ := V
  exact Sto.ofV A q O Iy
def MirW (Z : State) (C : String) (a : Addr) : Prop := ∃ (c : ClassId) (k : Class), Z.vm.findClass C = some c ∧ Z.vm.classes[c]? = some k ∧ k.mirror = some a
theorem own_mirT {C : String} {a : Addr} {args : Array Value} (hZ : Z.Warmed39 s.vm) (M : MirW Z C a) : (Term.mirror C).eval args s none [] s = some (.ref a) := by
  obtain ⟨cc, kc, m1, m2, m3⟩ := M
  obtain ⟨k', q, ek⟩ := hZ.alike.2.2 _ _ m2
  have f : s.vm.findClass C = some cc := by rw [hZ.alike.findClass]; exact m1
  have g : k'.mirror = some a := by rw [ek]; exact m3
  simp [Term.eval, f, q, g]
theorem o_ldcM (W : Wk p l e R s m args below meth c own Z hb ws I T h locs cells slots) {C : String} {index : Nat} (w : (Cond.classLink own index C).before a0 Z = true) {a : Addr} (M : MirW Z C a) (hd : decode c.code pc = .ok (.ldc index, 2)) (hp : pc + 2 = pc')
    (K : ∀ T', Wk p l e R s m args below meth c own Z hb ws I T' h locs cells slots → Gl p.tables e below P T' m pc' L (.ref a :: S)) : Gl p.tables e below P T m pc L S := by
  subst hp
  obtain ⟨X, hx, eT, hZ, ho, r⟩ := W
  obtain ⟨vm', X', st⟩ := X.ldcMirror hx ho (mv hZ w) (own_mirT hZ M) (g := mkF m pc L S) rfl hd
  exact Gl.st st (K _ ⟨X', hx, eT, hZ, ho, r⟩)
theorem o_gcls (W : Wk p l e R s m args below meth c own Z hb ws I T h locs cells slots) {C : String} {index : Nat}
    (w1 : (Cond.methodLink own index ⟨"java/lang/Object", "getClass", "()Ljava/lang/Class;"⟩).before a0 Z = true) (w2 : (Cond.declares ⟨"java/lang/Object", "getClass", "()Ljava/lang/Class;"⟩).before a0 Z = true) (w3 : (Cond.noSuperclass "java/lang/Object").before a0 Z = true) (w4 : (Cond.selects C ⟨"java/lang/Object", "getClass", "()Ljava/lang/Class;"⟩ ⟨"java/lang/Object", "getClass", "()Ljava/lang/Class;"⟩).before a0 Z = true)
    (w5 : (Cond.instanceMethod ⟨"java/lang/Object", "getClass", "()Ljava/lang/Class;"⟩).before a0 Z = true) (w6 : (Cond.native ⟨"java/lang/Object", "getClass", "()Ljava/lang/Class;"⟩).before a0 Z = true) {a mr : Addr} (E : Exa Z h a C) (M : MirW Z C mr) (hml : L.size = c.maxLocals)
    (hd : decode c.code pc = .ok (.invokevirtual index, 3)) (hp : pc + 3 = pc') (hf : 1 ≤ R.frames) (Wd : Nat) (hW : 2 * 0 + (S.map fun v => v.category).sum ≤ Wd) (hl : Wd + (nativeFrameWords "java/lang/Object" "getClass" 1 + 11) ≤ R.locals)
    (K : ∀ T', Wk p l e R s m args below meth c own Z hb ws I T' h locs cells slots → Gl p.tables e below P T' m pc' L (.ref mr :: S)) : Gl p.tables e below P T m pc L (.ref a :: S) := by
  subst hp
  obtain ⟨X, hx, eT, hZ, ho, r⟩ := W
  obtain ⟨cB, kB, i1, i2, i3⟩ := isOf hZ eT E
  obtain ⟨cc, kc, m1, m2, m3⟩ := M
  rw [hZ.alike.findClass] at i1
  cases i1.symm.trans m1
  obtain ⟨k', q, ek⟩ := hZ.alike.2.2 _ _ m2
  obtain ⟨vm', X', st⟩ := X.getClassOf hx ho (mvT hZ w1) (mvT hZ w2) (nf_top (args := #[]) (mvT hZ w3)) (mvT hZ w4) (mvT hZ w5) (mvT hZ w6) (by rw [hZ.alike.findClass]; exact m1) i3 q (by rw [ek]; exact m3) (g := mkF m pc L (.ref a :: S)) rfl hml rfl hd hf (by have : (mkF m pc L (.ref a :: S)).monitorRoom = 0 := rfl; omega)
  exact Gl.st st (K _ ⟨X', hx, eT, hZ, ho, r⟩)
theorem o_getSN (W : Wk p l e R s m args below meth c own Z hb ws I T h locs cells slots) {R0 O n d host : String} {index : Nat} (w : (Cond.fieldLinkNest own index R0 n d host).before a0 Z = true) (via : Via Z R0 O n d) {v : Value} (F : Sta Z h O n d v) (hd : decode c.code pc = .ok (.getstatic index, 3)) (hp : pc + 3 = pc')
    (K : ∀ T', Wk p l e R s m args below meth c own Z hb ws I T' h locs cells slots → Gl p.tables e below P T' m pc' L (v :: S)) : Gl p.tables e below P T m pc L S := by
  subst hp
  obtain ⟨X, hx, eT, hZ, ho, r⟩ := W
  obtain ⟨T', X', e', st⟩ := getS2 (host := host) X hx hZ ho (Or.inr w) via eT F (g := mkF m pc L S) rfl hd
  exact Gl.st st (K T' ⟨X', hx, e', hZ, ho, r⟩)
theorem o_tswI (W : Wk p l e R s m args below meth c own Z hb ws I T h locs cells slots) {k : Int32} {default low high : Int} {offsets : Array Int} {len : Nat} (hd : decode c.code pc = .ok (.tableswitch default low high offsets, len)) (hin : ¬ (k.toInt < low ∨ k.toInt > high)) {off : Int} (hoffs : offsets[(k.toInt - low).toNat]? = some off) (ho : 0 ≤ (pc : Int) + off) (hp : ((pc : Int) + off).toNat = pc')
    (K : Gl p.tables e below P T m pc' L S) : Gl p.tables e below P T m pc L (.int k :: S) := by
  subst hp
  exact Gl.st (fun t q => W.1.tableswitchIn W.2.1 (g := mkF m pc L (.int k :: S)) rfl rfl hd hin hoffs ho t q) K
theorem o_tswO (W : Wk p l e R s m args below meth c own Z hb ws I T h locs cells slots) {k : Int32} {default low high : Int} {offsets : Array Int} {len : Nat} (hd : decode c.code pc = .ok (.tableswitch default low high offsets, len)) (hout : k.toInt < low ∨ k.toInt > high) (ho : 0 ≤ (pc : Int) + default) (hp : ((pc : Int) + default).toNat = pc')
    (K : Gl p.tables e below P T m pc' L S) : Gl p.tables e below P T m pc L (.int k :: S) := by
  subst hp
  exact Gl.st (fun t q => W.1.tableswitchOut W.2.1 (g := mkF m pc L (.int k :: S)) rfl rfl hd hout ho t q) K
theorem o_newRE (W : Wk p l e R s m args below meth c own Z hb ws I T h locs cells slots) {C ad : String} {index : Nat} (w1 : (Cond.classLink own index C).before a0 Z = true) (w2 : (Cond.arrayOver (.object C)).before a0 Z = true) (hI : ∀ h', Ext h h' → I h') (had : "[" ++ (FieldType.object C).toString = ad) {n : Int32} (hn : ¬ n < 0) {cap : Nat} (hcap : n.toNatClampNeg ≤ cap) (hb8 : cap * 8 ≤ 536870912)
    (hd : decode c.code pc = .ok (.anewarray index, 3)) (hp : pc + 3 = pc') (hc' : cells + 1 = cells') (hs' : slots + cap = slots') (hc : cells' ≤ R.cells) (hs : slots' ≤ R.slots) {vs : List Value} (hv : vs = List.replicate vs.length .null)
    (K : ∀ b T' h' k, Wk p l e R s m args below meth c own Z hb ws I T' h' locs cells' slots' → Ext h h' → h.size ≤ b → Z.heap.size ≤ b → hb.size ≤ b → Arv Z h' b k (.object C) n vs .null → Ovr Z k C → Exa Z h' b ad → Gl p.tables e below P T' m pc' L (.ref b :: S)) : Gl p.tables e below P T m pc L (.int n :: S) := by
  subst hp hc' hs' had
  obtain ⟨X, hx, eT, hZ, ho, o, fr, kp, i⟩ := W
  obtain ⟨vm₁, cA, kA, comp, -, h1, h2, h3, h4, X', st⟩ := X.anewarrayRefK hx ho (mv hZ w1) (Cond.arrayOver_alike hZ.alike w2) (g := mkF m pc L (.int n :: S)) rfl hd rfl hn (by omega) hc (by omega)
  subst eT
  rw [hZ.alike.findClass] at h1
  obtain ⟨kZ, z1, -⟩ := Vm.findClass_spec h1
  obtain ⟨k', z2, z3⟩ := hZ.alike.2.2 _ _ z1
  cases h2.symm.trans z2
  have hk : kZ.kind = .array comp (.object C) := by rw [← h3, z3]
  have E : Ext T.heap (T.heap.push (newA cA (.object C) n)) := ext_of fun a q => Array.getElem?_push_lt q |>.trans (Array.getElem?_eq_getElem q).symm
  have hcell : (T.heap.push (newA cA (.object C) n))[T.heap.size]? = some (newA cA (.object C) n) := by simp
  have A : Arr Z (T.heap.push (newA cA (.object C) n)) T.heap.size (newA cA (.object C) n) (.object C) := ⟨hcell, ⟨by simp [newA], kZ, z1, comp, hk⟩, by simp [newA]⟩
  exact Gl.st st (K _ _ _ cA ⟨X'.more (Nat.le_refl _) (by omega), hx, rfl, hZ, ho, o.ext E, fr, kp.ext E, hI _ E⟩ E (Nat.le_refl _) o.2.1 kp.1 ((Arv.new A hn).pad (by rw [hv]; exact pad_rep [] _ _)) ⟨kZ, comp, z1, hk, by rw [← hZ.alike.findClass]; exact h4⟩ ⟨_, kZ, hcell, h1, z1, rfl, fun q => by rw [hk] at q; cases q⟩)
theorem own_mvM {own host : String} {y : MethodName} {index : Nat} {args : Array Value} (hZ : Z.Warmed39 s.vm) (w : (Cond.methodLinkNest own index y host).before a0 Z = true) : (Cond.methodLinkNest own index y host).before args s = true := (Cond.methodLinkNest_wide hZ w :)
theorem o_specialN (W : Wk p l e R s m args below meth c own Z hb ws I T h locs cells slots) {index : Nat} {host : String} {y : MethodName} {bytes : ByteArray} {maxL : Nat} (hy1 : y.name = "<init>") (w1 : (Cond.methodLinkNest own index y host).before a0 Z = true) (w2 : (Cond.instanceMethod y).before a0 Z = true) (w4 : (Cond.code y bytes maxL none).before a0 Z = true)
    (hy : y.cls ≠ "java/lang/invoke/MethodHandle" ∧ y.cls ≠ "java/lang/invoke/VarHandle") {Wd kc ks : Nat} {Q : Option Value → Heap → List Loc → Prop} {a : Addr} {argsL : List Value} (B : BackQ l R p e below s args y 3 Wd (.ref a :: argsL).toArray h kc ks Q) (hml : L.size = c.maxLocals)
    (hlen : ∀ sig, parseMethodDescriptor y.desc = some sig → argsL.length = sig.parameters.length) {S0 : List Value} (hS : S0 = argsL.reverse ++ .ref a :: S) (hW : 2 * 0 + (S.map fun v => v.category).sum ≤ Wd) (hd : decode c.code pc = .ok (.invokespecial index, 3)) (hp : pc + 3 = pc')
    (hc' : cells + kc = cells') (hs' : slots + ks = slots') (hc : cells' ≤ R.cells) (hs : slots' ≤ R.slots) {wy : List Addr} (hq : ∀ v hh L, Q v hh L → Fr Z.heap.size L ∧ Keep h hh wy) (hg : ∀ x ∈ wy, Z.heap.size ≤ x ∧ (x ∈ ws ∨ hb.size ≤ x)) (hI : ∀ h', Keep h h' wy → I h')
    (K : ∀ v T' h' Lc, Wk p l e R s m args below meth c own Z hb ws I T' h' (locs ++ Lc) cells' slots' → Keep h h' wy → Q v h' Lc → Gl p.tables e below P T' m pc' L (v.toList ++ S)) : Gl p.tables e below P T m pc L S0 := by
  subst hp hc' hs' hS
  obtain ⟨v, vm₁, B', -, X', hpost, st⟩ := W.1.specialBackNest W.2.1 hy1 W.2.2.2.2.1 (own_mvM W.2.2.2.1 w1) (mvT W.2.2.2.1 w2) (mvT W.2.2.2.1 w4) hy B (g := mkF m pc L (argsL.reverse ++ .ref a :: S)) rfl hml (Steps.refl _) hlen rfl hW hd (fun _ _ => ⟨rfl, W.2.2.1, hc, hs⟩)
  obtain ⟨Lc, q, k, W'⟩ := o_after W X' hpost hq hg hI
  exact Gl.tr st (K v _ _ Lc W' k q)
end OwnMore
set_option maxRecDepth 65536
set_option maxHeartbeats 40000000

def own_b (x : Int32) : Prop := ¬ x < 0 ∧ ¬ (255 : Int32) < x
def own_01 (x : Int32) : Prop := x = 0 ∨ x = 1
def own_ok (cs : List Int32) : Prop := (∀ c ∈ cs, own_b c) ∧ cs.length ≤ 4000
def own_eq (cs ds : List Int32) : Int32 := if cs = ds then 1 else 0
theorem own_eq01 (cs ds : List Int32) : own_01 (own_eq cs ds) := by unfold own_eq own_01; split <;> simp
theorem own_eq_symm (cs ds : List Int32) : own_eq cs ds = own_eq ds cs := by
  unfold own_eq
  by_cases h : cs = ds
  · rw [if_pos h, if_pos h.symm]
  · rw [if_neg h, if_neg (Ne.symm h)]
theorem own_lcs (x : Int64) : lcmpW x x = 0 := by simp [lcmpW]
theorem own_eqne (cs : List Int32) : ¬ own_eq cs cs = 0 := by unfold own_eq; rw [if_pos rfl]; decide
theorem own_ite0 {P : Prop} [Decidable P] (h : ¬ P) : (0 : Int32) = if P then 1 else 0 := (if_neg h).symm
theorem own_ite1 {P : Prop} [Decidable P] (h : P) : (1 : Int32) = if P then 1 else 0 := (if_pos h).symm
theorem own_b255 (x : Int32) : own_b (x &&& (255 : Int32)) := by
  have h := c_andS x 255
  have h1 : (x &&& (255 : Int32)).toBitVec.toNat ≤ 255 := by
    rw [Int32.toBitVec_and, BitVec.toNat_and]; exact Nat.and_le_right
  have h0 := h.2.2 (by decide)
  have e : (x &&& (255 : Int32)).toInt = (x &&& (255 : Int32)).toBitVec.toNat := by
    show (x &&& (255 : Int32)).toBitVec.toInt = _
    rw [BitVec.toInt_eq_toNat_cond, if_pos (by omega)]
  refine ⟨?_, ?_⟩
  · rw [Int32.lt_iff_toInt_lt]; show ¬ _ < (0 : Int); omega
  · rw [Int32.lt_iff_toInt_lt]; show ¬ (255 : Int) < _; omega
theorem own_bnat {x : Int32} (h : own_b x) : x.toBitVec.toNat ≤ 255 ∧ x.toInt = x.toBitVec.toNat := by
  obtain ⟨h0, h1⟩ := h
  rw [Int32.lt_iff_toInt_lt] at h0 h1
  have e0 : (0 : Int32).toInt = 0 := rfl
  have e1 : (255 : Int32).toInt = 255 := rfl
  have := x.toBitVec.isLt
  have e : x.toInt = x.toBitVec.toInt := rfl
  have e2 : x.toBitVec.toInt = if 2 * x.toBitVec.toNat < 2 ^ 32 then (x.toBitVec.toNat : Int) else (x.toBitVec.toNat : Int) - ((2 ^ 32 : Nat) : Int) := BitVec.toInt_eq_toNat_cond x.toBitVec
  split at e2 <;> omega
theorem own_i2c {x : Int32} (h : own_b x) : x.toUInt32.toUInt16.toUInt32.toInt32 = x := by
  obtain ⟨h1, -⟩ := own_bnat h
  apply Int32.toBitVec_inj.mp
  apply BitVec.eq_of_toNat_eq
  show (BitVec.setWidth 32 (BitVec.setWidth 16 x.toBitVec)).toNat = _
  simp only [BitVec.toNat_setWidth]
  omega
theorem own_fitC {x : Int32} (h : own_b x) : fits .char (.int x) = true := by
  have q := fits_nar_char x
  have e : nar .char x = x := own_i2c h
  rw [e] at q; exact q
theorem own_nar01 {x : Int32} (h : own_01 x) : x &&& 1 = x := by rcases h with rfl | rfl <;> decide
theorem own_fit01 {x : Int32} (h : own_01 x) : fits .boolean (.int x) = true := by rcases h with rfl | rfl <;> decide
theorem own_up {cs : List Int32} (h : own_ok cs) : ∀ c ∈ cs, ¬ c < 0 ∧ ¬ (65535 : Int32) < c := fun c hc => by
  obtain ⟨h0, h1⟩ := h.1 c hc
  refine ⟨h0, fun q => h1 ?_⟩
  rw [Int32.lt_iff_toInt_lt] at q ⊢
  have e0 : (65535 : Int32).toInt = 65535 := rfl
  have e1 : (255 : Int32).toInt = 255 := rfl
  omega
theorem own_eqv {v : Option Value} {cs ds : List Int32} (h : (v = some (.int 1) ∧ cs = ds) ∨ (v = some (.int 0) ∧ ¬ cs = ds)) : v = some (.int (own_eq cs ds)) := by
  unfold own_eq
  rcases h with ⟨rfl, h⟩ | ⟨rfl, h⟩
  · rw [if_pos h]
  · rw [if_neg h]
theorem own_b8 (x : Int32) : x.toInt8.toInt32.toInt8.toInt32 = x.toInt8.toInt32 := by simp
theorem own_fit8 (x : Int32) : fits .byte (.int x.toInt8.toInt32) = true := fits_nar_byte x
theorem own_shr8 {x : Int32} (h : own_b x) : (x.toUInt32 >>> ((8 : Int32) &&& 31).toUInt32).toInt32 = 0 := by
  obtain ⟨h1, -⟩ := own_bnat h
  apply Int32.toBitVec_inj.mp
  apply BitVec.eq_of_toNat_eq
  have e : ((8 : Int32) &&& 31).toUInt32 = 8 := by decide
  rw [e]
  show (x.toUInt32 >>> 8).toBitVec.toNat = 0
  rw [UInt32.toBitVec_shiftRight]
  show (x.toBitVec >>> (8 : UInt32).toBitVec.umod 32).toNat = 0
  rw [BitVec.ushiftRight_eq', BitVec.toNat_ushiftRight, show ((8 : UInt32).toBitVec.umod 32).toNat = 8 by decide, Nat.shiftRight_eq_div_pow]
  omega
theorem own_eqS {args : Array Value} {Z : State} {t : Term} {x : Int32} (h : t.eval args Z none [] Z = some (.int x)) : (Jvm.Cond.eq t (.int 0)).value args Z none Z [] = some (decide (x = 0)) := by
  simp [Cond.value, h, Term.eval]
theorem own_same {n : Nat} {L : List Loc} {h hh : Heap} (q : L = [] ∧ hh = h) : Fr n L ∧ Keep h hh [] := by
  obtain ⟨rfl, rfl⟩ := q
  exact ⟨Fr.nil _, Keep.refl _ _⟩
theorem own_hV {Z : State} {a0 : Array Value} (hw : ∀ d ∈ tables_1, d.before a0 Z = true) : ∀ d ∈ StrChars.Road.words, d.before a0 Z = true := fun d hd => hw d ((by decide +kernel : ∀ w ∈ StrChars.Road.words, w ∈ tables_1) d hd)
theorem own_wS {Z : State} {a0 : Array Value} (hw : ∀ d ∈ tables_1, d.before a0 Z = true) : ∀ a ∈ Bundle.stringAtoms, a.before a0 Z = true := fun d hd => hw d ((by decide +kernel : ∀ w ∈ Bundle.stringAtoms, w ∈ tables_1) d hd)
abbrev consts_1 : List (String × Nat) := []
theorem own_EL {Z : State} {a0 : Array Value} (hw : ∀ d ∈ tables_1, d.before a0 Z = true) : EW Z a0 consts_1 := EW.nil

theorem own_eqR {Z : State} {args : Array Value} {a b : Term} {g : Addr} (h : (Jvm.Cond.eq a b).value args Z none Z [] = some true) (hb : b.eval args Z none [] Z = some (.ref g)) : a.eval args Z none [] Z = some (.ref g) := by
  obtain ⟨x, y, e1, e2, k1, k2⟩ := cmp_v (Or.inl h)
  cases hb.symm.trans e2
  have hx : x.isRef = true := k2.2
  have := gotT (eq_R e1 hb hx rfl) h
  rw [e1, this]
theorem own_len {Z : State} {args : Array Value} {t : Term} {a : Addr} {cl : Cell} {ty : FieldType} {n : Int32} (ev : t.eval args Z none [] Z = some (.ref a)) (A : Arr Z Z.heap a cl ty) (h : (Jvm.Cond.eq (.length t) (.int n)).value args Z none Z [] = some true) : cl.slots.size < 2 ^ 31 ∧ cl.slots.size.toInt32 = n := by
  have q := eqv_i (Term.int_eval n) h
  have f := A.fin (Vm.Alike.refl _)
  by_cases hs : cl.slots.size < 2 ^ 31
  · rw [len_f ev f hs] at q
    exact ⟨hs, by simpa using q⟩
  · simp [Term.eval, ev, f, hs] at q
theorem own_elI {Z : State} {args : Array Value} {t : Term} {a : Addr} {cl : Cell} {ty : FieldType} {i v : Int32} {k : Nat} (ev : t.eval args Z none [] Z = some (.ref a)) (A : Arr Z Z.heap a cl ty) (h : (Jvm.Cond.eq (.elem t (.int i)) (.int v)).value args Z none Z [] = some true) (hk : i.toNatClampNeg = k) : cl.slots[k]? = some (.int v) := by
  subst hk
  exact (elem_in (eqv_i (Term.int_eval v) h) ev (Term.int_eval i) A.1).2
theorem own_elJ {Z : State} {args : Array Value} {t : Term} {a : Addr} {cl : Cell} {ty : FieldType} {i : Int32} {v : Int64} {k : Nat} (ev : t.eval args Z none [] Z = some (.ref a)) (A : Arr Z Z.heap a cl ty) (h : (Jvm.Cond.eq (.elem t (.int i)) (.long v)).value args Z none Z [] = some true) (hk : i.toNatClampNeg = k) : cl.slots[k]? = some (.long v) := by
  subst hk
  exact (elem_in (eqv_l (long_at v) h) ev (Term.int_eval i) A.1).2
theorem own_elR {Z : State} {args : Array Value} {t : Term} {a : Addr} {cl : Cell} {ty : FieldType} {i : Int32} {v : Value} {k : Nat} (ev : t.eval args Z none [] Z = some (.ref a)) (A : Arr Z Z.heap a cl ty) (h : (Term.elem t (.int i)).eval args Z none [] Z = some v) (hk : i.toNatClampNeg = k) : cl.slots[k]? = some v := by
  subst hk
  exact (elem_in h ev (Term.int_eval i) A.1).2

theorem own_rem3 (x : Int32) : ((x &&& (2147483647 : Int32)) % (3 : Int32)) = 0 ∨ ((x &&& (2147483647 : Int32)) % (3 : Int32)) = 1 ∨ ((x &&& (2147483647 : Int32)) % (3 : Int32)) = 2 := by
  have h := (c_andS x 2147483647).2.2 (by decide)
  have e : ((x &&& (2147483647 : Int32)) % (3 : Int32)).toInt = (x &&& (2147483647 : Int32)).toInt.tmod 3 := Int32.toInt_mod _ _
  have h1 := Int.tmod_nonneg 3 h
  have h2 := Int.tmod_lt_of_pos (x &&& (2147483647 : Int32)).toInt (show (0 : Int) < 3 by decide)
  rcases Int.lt_or_le ((x &&& (2147483647 : Int32)).toInt.tmod 3) 1 with q | q
  · exact Or.inl (Int32.toInt_inj.mp (show _ = (0 : Int) by omega))
  · rcases Int.lt_or_le ((x &&& (2147483647 : Int32)).toInt.tmod 3) 2 with q | q
    · exact Or.inr (Or.inl (Int32.toInt_inj.mp (show _ = (1 : Int) by omega)))
    · exact Or.inr (Or.inr (Int32.toInt_inj.mp (show _ = (2 : Int) by omega)))

theorem w0 {Z : State} {a0 : Array Value} (hw : ∀ d ∈ tables_1, d.before a0 Z = true) : ((Jvm.Cond.constant "com/example/sessn/sessn/log/LoggedSessionCurrentPinLaw" (7 : Nat) (2147483647 : Int32))).before a0 Z = true := hw _ (List.mem_of_getElem? (i := 0) rfl)
theorem w1 {Z : State} {a0 : Array Value} (hw : ∀ d ∈ tables_1, d.before a0 Z = true) : ((Jvm.Cond.methodLink "com/example/sessn/sessn/log/LoggedSessionCurrentPinLaw" (8 : Nat) ({ cls := "com/example/sessn/sessn/log/LoggedSessionCurrentPinLaw", name := "query", desc := "(I)Lcom/example/sessn/sessn/log/LoggedQuery;" } : Jvm.MethodName))).before a0 Z = true := hw _ (List.mem_of_getElem? (i := 1) rfl)
theorem w2 {Z : State} {a0 : Array Value} (hw : ∀ d ∈ tables_1, d.before a0 Z = true) : ((Jvm.Cond.static ({ cls := "com/example/sessn/sessn/log/LoggedSessionCurrentPinLaw", name := "query", desc := "(I)Lcom/example/sessn/sessn/log/LoggedQuery;" } : Jvm.MethodName))).before a0 Z = true := hw _ (List.mem_of_getElem? (i := 2) rfl)
theorem w3 {Z : State} {a0 : Array Value} (hw : ∀ d ∈ tables_1, d.before a0 Z = true) : ((Jvm.Cond.initialized "com/example/sessn/sessn/log/LoggedSessionCurrentPinLaw")).before a0 Z = true := hw _ (List.mem_of_getElem? (i := 3) rfl)
theorem w4 {Z : State} {a0 : Array Value} (hw : ∀ d ∈ tables_1, d.before a0 Z = true) : ((Jvm.Cond.code ({ cls := "com/example/sessn/sessn/log/LoggedSessionCurrentPinLaw", name := "query", desc := "(I)Lcom/example/sessn/sessn/log/LoggedQuery;" } : Jvm.MethodName) method_3_code (2 : Nat) (Option.some (Jvm.ClassFile.FieldType.object "com/example/sessn/sessn/log/LoggedQuery")))).before a0 Z = true := hw _ (List.mem_of_getElem? (i := 4) rfl)
theorem w5 {Z : State} {a0 : Array Value} (hw : ∀ d ∈ tables_1, d.before a0 Z = true) : ((Jvm.Cond.arrayClass Jvm.ClassFile.FieldType.char)).before a0 Z = true := hw _ (List.mem_of_getElem? (i := 5) rfl)
theorem w6 {Z : State} {a0 : Array Value} (hw : ∀ d ∈ tables_1, d.before a0 Z = true) : ((Jvm.Cond.classLink "com/example/sessn/sessn/log/LoggedSessionCurrentPinLaw" (32 : Nat) "com/example/sessn/sessn/log/LoggedQuery")).before a0 Z = true := hw _ (List.mem_of_getElem? (i := 6) rfl)
theorem w7 {Z : State} {a0 : Array Value} (hw : ∀ d ∈ tables_1, d.before a0 Z = true) : ((Jvm.Cond.instantiable "com/example/sessn/sessn/log/LoggedQuery" (4 : Nat))).before a0 Z = true := hw _ (List.mem_of_getElem? (i := 7) rfl)
theorem w8 {Z : State} {a0 : Array Value} (hw : ∀ d ∈ tables_1, d.before a0 Z = true) : ((Jvm.Cond.initialized "com/example/sessn/sessn/log/LoggedQuery")).before a0 Z = true := hw _ (List.mem_of_getElem? (i := 8) rfl)
theorem w9 {Z : State} {a0 : Array Value} (hw : ∀ d ∈ tables_1, d.before a0 Z = true) : ((Jvm.Cond.classLink "com/example/sessn/sessn/log/LoggedSessionCurrentPinLaw" (34 : Nat) "java/lang/String")).before a0 Z = true := hw _ (List.mem_of_getElem? (i := 9) rfl)
theorem w10 {Z : State} {a0 : Array Value} (hw : ∀ d ∈ tables_1, d.before a0 Z = true) : ((Jvm.Cond.instantiable "java/lang/String" (4 : Nat))).before a0 Z = true := hw _ (List.mem_of_getElem? (i := 10) rfl)
theorem w11 {Z : State} {a0 : Array Value} (hw : ∀ d ∈ tables_1, d.before a0 Z = true) : ((Jvm.Cond.initialized "java/lang/String")).before a0 Z = true := hw _ (List.mem_of_getElem? (i := 11) rfl)
theorem w12 {Z : State} {a0 : Array Value} (hw : ∀ d ∈ tables_1, d.before a0 Z = true) : ((Jvm.Cond.methodLink "com/example/sessn/sessn/log/LoggedSessionCurrentPinLaw" (36 : Nat) ({ cls := "java/lang/String", name := "<init>", desc := "([C)V" } : Jvm.MethodName))).before a0 Z = true := hw _ (List.mem_of_getElem? (i := 12) rfl)
theorem w13 {Z : State} {a0 : Array Value} (hw : ∀ d ∈ tables_1, d.before a0 Z = true) : ((Jvm.Cond.instanceMethod ({ cls := "java/lang/String", name := "<init>", desc := "([C)V" } : Jvm.MethodName))).before a0 Z = true := hw _ (List.mem_of_getElem? (i := 13) rfl)
theorem w14 {Z : State} {a0 : Array Value} (hw : ∀ d ∈ tables_1, d.before a0 Z = true) : ((Jvm.Cond.code ({ cls := "java/lang/String", name := "<init>", desc := "([C)V" } : Jvm.MethodName) jdk_42_method_3_code (2 : Nat) (Option.none : Option Jvm.ClassFile.FieldType))).before a0 Z = true := hw _ (List.mem_of_getElem? (i := 14) rfl)
theorem w20 {Z : State} {a0 : Array Value} (hw : ∀ d ∈ tables_1, d.before a0 Z = true) : ((Jvm.Cond.instanceMethod ({ cls := "java/lang/Object", name := "<init>", desc := "()V" } : Jvm.MethodName))).before a0 Z = true := hw _ (List.mem_of_getElem? (i := 20) rfl)
theorem w21 {Z : State} {a0 : Array Value} (hw : ∀ d ∈ tables_1, d.before a0 Z = true) : ((Jvm.Cond.code ({ cls := "java/lang/Object", name := "<init>", desc := "()V" } : Jvm.MethodName) object_method_1_code (1 : Nat) (Option.none : Option Jvm.ClassFile.FieldType))).before a0 Z = true := hw _ (List.mem_of_getElem? (i := 21) rfl)
theorem w35 {Z : State} {a0 : Array Value} (hw : ∀ d ∈ tables_1, d.before a0 Z = true) : ((Jvm.Cond.laysFinal "java/lang/String" "java/lang/String" "coder" "B")).before a0 Z = true := hw _ (List.mem_of_getElem? (i := 35) rfl)
theorem w37 {Z : State} {a0 : Array Value} (hw : ∀ d ∈ tables_1, d.before a0 Z = true) : ((Jvm.Cond.laysFinal "java/lang/String" "java/lang/String" "value" "[B")).before a0 Z = true := hw _ (List.mem_of_getElem? (i := 37) rfl)
theorem w38 {Z : State} {a0 : Array Value} (hw : ∀ d ∈ tables_1, d.before a0 Z = true) : ((Jvm.Cond.classLink "com/example/sessn/sessn/log/LoggedSessionCurrentPinLaw" (14 : Nat) "java/util/ArrayList")).before a0 Z = true := hw _ (List.mem_of_getElem? (i := 38) rfl)
theorem w39 {Z : State} {a0 : Array Value} (hw : ∀ d ∈ tables_1, d.before a0 Z = true) : ((Jvm.Cond.instantiable "java/util/ArrayList" (3 : Nat))).before a0 Z = true := hw _ (List.mem_of_getElem? (i := 39) rfl)
theorem w40 {Z : State} {a0 : Array Value} (hw : ∀ d ∈ tables_1, d.before a0 Z = true) : ((Jvm.Cond.initialized "java/util/ArrayList")).before a0 Z = true := hw _ (List.mem_of_getElem? (i := 40) rfl)
theorem w41 {Z : State} {a0 : Array Value} (hw : ∀ d ∈ tables_1, d.before a0 Z = true) : ((Jvm.Cond.methodLink "com/example/sessn/sessn/log/LoggedSessionCurrentPinLaw" (16 : Nat) ({ cls := "java/util/ArrayList", name := "<init>", desc := "()V" } : Jvm.MethodName))).before a0 Z = true := hw _ (List.mem_of_getElem? (i := 41) rfl)
theorem w42 {Z : State} {a0 : Array Value} (hw : ∀ d ∈ tables_1, d.before a0 Z = true) : ((Jvm.Cond.instanceMethod ({ cls := "java/util/ArrayList", name := "<init>", desc := "()V" } : Jvm.MethodName))).before a0 Z = true := hw _ (List.mem_of_getElem? (i := 42) rfl)
theorem w43 {Z : State} {a0 : Array Value} (hw : ∀ d ∈ tables_1, d.before a0 Z = true) : ((Jvm.Cond.code ({ cls := "java/util/ArrayList", name := "<init>", desc := "()V" } : Jvm.MethodName) jdk_38_method_2_code (1 : Nat) (Option.none : Option Jvm.ClassFile.FieldType))).before a0 Z = true := hw _ (List.mem_of_getElem? (i := 43) rfl)
theorem w44 {Z : State} {a0 : Array Value} (hw : ∀ d ∈ tables_1, d.before a0 Z = true) : ((Jvm.Cond.methodLink "java/util/ArrayList" (1 : Nat) ({ cls := "java/util/AbstractList", name := "<init>", desc := "()V" } : Jvm.MethodName))).before a0 Z = true := hw _ (List.mem_of_getElem? (i := 44) rfl)
theorem w45 {Z : State} {a0 : Array Value} (hw : ∀ d ∈ tables_1, d.before a0 Z = true) : ((Jvm.Cond.instanceMethod ({ cls := "java/util/AbstractList", name := "<init>", desc := "()V" } : Jvm.MethodName))).before a0 Z = true := hw _ (List.mem_of_getElem? (i := 45) rfl)
theorem w48 {Z : State} {a0 : Array Value} (hw : ∀ d ∈ tables_1, d.before a0 Z = true) : ((Jvm.Cond.initialized "java/util/AbstractList")).before a0 Z = true := hw _ (List.mem_of_getElem? (i := 48) rfl)
theorem w49 {Z : State} {a0 : Array Value} (hw : ∀ d ∈ tables_1, d.before a0 Z = true) : ((Jvm.Cond.code ({ cls := "java/util/AbstractList", name := "<init>", desc := "()V" } : Jvm.MethodName) jdk_39_method_1_code (1 : Nat) (Option.none : Option Jvm.ClassFile.FieldType))).before a0 Z = true := hw _ (List.mem_of_getElem? (i := 49) rfl)
theorem w50 {Z : State} {a0 : Array Value} (hw : ∀ d ∈ tables_1, d.before a0 Z = true) : ((Jvm.Cond.methodLink "java/util/AbstractList" (1 : Nat) ({ cls := "java/util/AbstractCollection", name := "<init>", desc := "()V" } : Jvm.MethodName))).before a0 Z = true := hw _ (List.mem_of_getElem? (i := 50) rfl)
theorem w51 {Z : State} {a0 : Array Value} (hw : ∀ d ∈ tables_1, d.before a0 Z = true) : ((Jvm.Cond.instanceMethod ({ cls := "java/util/AbstractCollection", name := "<init>", desc := "()V" } : Jvm.MethodName))).before a0 Z = true := hw _ (List.mem_of_getElem? (i := 51) rfl)
theorem w54 {Z : State} {a0 : Array Value} (hw : ∀ d ∈ tables_1, d.before a0 Z = true) : ((Jvm.Cond.initialized "java/util/AbstractCollection")).before a0 Z = true := hw _ (List.mem_of_getElem? (i := 54) rfl)
theorem w55 {Z : State} {a0 : Array Value} (hw : ∀ d ∈ tables_1, d.before a0 Z = true) : ((Jvm.Cond.code ({ cls := "java/util/AbstractCollection", name := "<init>", desc := "()V" } : Jvm.MethodName) jdk_22_method_1_code (1 : Nat) (Option.none : Option Jvm.ClassFile.FieldType))).before a0 Z = true := hw _ (List.mem_of_getElem? (i := 55) rfl)
theorem w56 {Z : State} {a0 : Array Value} (hw : ∀ d ∈ tables_1, d.before a0 Z = true) : ((Jvm.Cond.methodLink "java/util/AbstractCollection" (1 : Nat) ({ cls := "java/lang/Object", name := "<init>", desc := "()V" } : Jvm.MethodName))).before a0 Z = true := hw _ (List.mem_of_getElem? (i := 56) rfl)
theorem w57 {Z : State} {a0 : Array Value} (hw : ∀ d ∈ tables_1, d.before a0 Z = true) : ((Jvm.Cond.fieldLink "java/util/AbstractList" (7 : Nat) "java/util/AbstractList" "modCount" "I")).before a0 Z = true := hw _ (List.mem_of_getElem? (i := 57) rfl)
theorem w58 {Z : State} {a0 : Array Value} (hw : ∀ d ∈ tables_1, d.before a0 Z = true) : ((Jvm.Cond.lays "java/util/ArrayList" "java/util/AbstractList" "modCount" "I")).before a0 Z = true := hw _ (List.mem_of_getElem? (i := 58) rfl)
theorem w59 {Z : State} {a0 : Array Value} (hw : ∀ d ∈ tables_1, d.before a0 Z = true) : ((Jvm.Cond.fieldLink "java/util/ArrayList" (39 : Nat) "java/util/ArrayList" "DEFAULTCAPACITY_EMPTY_ELEMENTDATA" "[Ljava/lang/Object;")).before a0 Z = true := hw _ (List.mem_of_getElem? (i := 59) rfl)
theorem w60 {Z : State} {a0 : Array Value} (hw : ∀ d ∈ tables_1, d.before a0 Z = true) : ((Jvm.Cond.fieldLink "java/util/ArrayList" (9 : Nat) "java/util/ArrayList" "elementData" "[Ljava/lang/Object;")).before a0 Z = true := hw _ (List.mem_of_getElem? (i := 60) rfl)
theorem w61 {Z : State} {a0 : Array Value} (hw : ∀ d ∈ tables_1, d.before a0 Z = true) : ((Jvm.Cond.lays "java/util/ArrayList" "java/util/ArrayList" "elementData" "[Ljava/lang/Object;")).before a0 Z = true := hw _ (List.mem_of_getElem? (i := 61) rfl)
theorem w62 {Z : State} {a0 : Array Value} (hw : ∀ d ∈ tables_1, d.before a0 Z = true) : ((Jvm.Cond.methodLink "com/example/sessn/sessn/log/LoggedSessionCurrentPinLaw" (39 : Nat) ({ cls := "com/example/sessn/sessn/log/LoggedQuery", name := "<init>", desc := "(Ljava/lang/String;Ljava/time/LocalDateTime;Ljava/util/List;Ljava/util/List;)V" } : Jvm.MethodName))).before a0 Z = true := hw _ (List.mem_of_getElem? (i := 62) rfl)
theorem w63 {Z : State} {a0 : Array Value} (hw : ∀ d ∈ tables_1, d.before a0 Z = true) : ((Jvm.Cond.instanceMethod ({ cls := "com/example/sessn/sessn/log/LoggedQuery", name := "<init>", desc := "(Ljava/lang/String;Ljava/time/LocalDateTime;Ljava/util/List;Ljava/util/List;)V" } : Jvm.MethodName))).before a0 Z = true := hw _ (List.mem_of_getElem? (i := 63) rfl)
theorem w64 {Z : State} {a0 : Array Value} (hw : ∀ d ∈ tables_1, d.before a0 Z = true) : ((Jvm.Cond.code ({ cls := "com/example/sessn/sessn/log/LoggedQuery", name := "<init>", desc := "(Ljava/lang/String;Ljava/time/LocalDateTime;Ljava/util/List;Ljava/util/List;)V" } : Jvm.MethodName) prog_19_method_1_code (5 : Nat) (Option.none : Option Jvm.ClassFile.FieldType))).before a0 Z = true := hw _ (List.mem_of_getElem? (i := 64) rfl)
theorem w65 {Z : State} {a0 : Array Value} (hw : ∀ d ∈ tables_1, d.before a0 Z = true) : ((Jvm.Cond.methodLink "com/example/sessn/sessn/log/LoggedQuery" (1 : Nat) ({ cls := "java/lang/Record", name := "<init>", desc := "()V" } : Jvm.MethodName))).before a0 Z = true := hw _ (List.mem_of_getElem? (i := 65) rfl)
theorem w66 {Z : State} {a0 : Array Value} (hw : ∀ d ∈ tables_1, d.before a0 Z = true) : ((Jvm.Cond.instanceMethod ({ cls := "java/lang/Record", name := "<init>", desc := "()V" } : Jvm.MethodName))).before a0 Z = true := hw _ (List.mem_of_getElem? (i := 66) rfl)
theorem w68 {Z : State} {a0 : Array Value} (hw : ∀ d ∈ tables_1, d.before a0 Z = true) : ((Jvm.Cond.initialized "java/lang/Record")).before a0 Z = true := hw _ (List.mem_of_getElem? (i := 68) rfl)
theorem w69 {Z : State} {a0 : Array Value} (hw : ∀ d ∈ tables_1, d.before a0 Z = true) : ((Jvm.Cond.code ({ cls := "java/lang/Record", name := "<init>", desc := "()V" } : Jvm.MethodName) jdk_30_method_1_code (1 : Nat) (Option.none : Option Jvm.ClassFile.FieldType))).before a0 Z = true := hw _ (List.mem_of_getElem? (i := 69) rfl)
theorem w70 {Z : State} {a0 : Array Value} (hw : ∀ d ∈ tables_1, d.before a0 Z = true) : ((Jvm.Cond.methodLink "java/lang/Record" (1 : Nat) ({ cls := "java/lang/Object", name := "<init>", desc := "()V" } : Jvm.MethodName))).before a0 Z = true := hw _ (List.mem_of_getElem? (i := 70) rfl)
theorem w71 {Z : State} {a0 : Array Value} (hw : ∀ d ∈ tables_1, d.before a0 Z = true) : ((Jvm.Cond.methodLink "com/example/sessn/sessn/log/LoggedQuery" (7 : Nat) ({ cls := "java/util/List", name := "copyOf", desc := "(Ljava/util/Collection;)Ljava/util/List;" } : Jvm.MethodName))).before a0 Z = true := hw _ (List.mem_of_getElem? (i := 71) rfl)
theorem w72 {Z : State} {a0 : Array Value} (hw : ∀ d ∈ tables_1, d.before a0 Z = true) : ((Jvm.Cond.static ({ cls := "java/util/List", name := "copyOf", desc := "(Ljava/util/Collection;)Ljava/util/List;" } : Jvm.MethodName))).before a0 Z = true := hw _ (List.mem_of_getElem? (i := 72) rfl)
theorem w73 {Z : State} {a0 : Array Value} (hw : ∀ d ∈ tables_1, d.before a0 Z = true) : ((Jvm.Cond.initialized "java/util/List")).before a0 Z = true := hw _ (List.mem_of_getElem? (i := 73) rfl)
theorem w74 {Z : State} {a0 : Array Value} (hw : ∀ d ∈ tables_1, d.before a0 Z = true) : ((Jvm.Cond.code ({ cls := "java/util/List", name := "copyOf", desc := "(Ljava/util/Collection;)Ljava/util/List;" } : Jvm.MethodName) jdk_40_method_48_code (1 : Nat) (Option.some (Jvm.ClassFile.FieldType.object "java/util/List")))).before a0 Z = true := hw _ (List.mem_of_getElem? (i := 74) rfl)
theorem w75 {Z : State} {a0 : Array Value} (hw : ∀ d ∈ tables_1, d.before a0 Z = true) : ((Jvm.Cond.methodLink "java/util/List" (112 : Nat) ({ cls := "java/util/ImmutableCollections", name := "listCopy", desc := "(Ljava/util/Collection;)Ljava/util/List;" } : Jvm.MethodName))).before a0 Z = true := hw _ (List.mem_of_getElem? (i := 75) rfl)
theorem w76 {Z : State} {a0 : Array Value} (hw : ∀ d ∈ tables_1, d.before a0 Z = true) : ((Jvm.Cond.static ({ cls := "java/util/ImmutableCollections", name := "listCopy", desc := "(Ljava/util/Collection;)Ljava/util/List;" } : Jvm.MethodName))).before a0 Z = true := hw _ (List.mem_of_getElem? (i := 76) rfl)
theorem w77 {Z : State} {a0 : Array Value} (hw : ∀ d ∈ tables_1, d.before a0 Z = true) : ((Jvm.Cond.initialized "java/util/ImmutableCollections")).before a0 Z = true := hw _ (List.mem_of_getElem? (i := 77) rfl)
theorem w78 {Z : State} {a0 : Array Value} (hw : ∀ d ∈ tables_1, d.before a0 Z = true) : ((Jvm.Cond.code ({ cls := "java/util/ImmutableCollections", name := "listCopy", desc := "(Ljava/util/Collection;)Ljava/util/List;" } : Jvm.MethodName) jdk_56_method_3_code (2 : Nat) (Option.some (Jvm.ClassFile.FieldType.object "java/util/List")))).before a0 Z = true := hw _ (List.mem_of_getElem? (i := 78) rfl)
theorem w79 {Z : State} {a0 : Array Value} (hw : ∀ d ∈ tables_1, d.before a0 Z = true) : ((Jvm.Cond.classLink "java/util/ImmutableCollections" (10 : Nat) "java/util/ImmutableCollections$List12")).before a0 Z = true := hw _ (List.mem_of_getElem? (i := 79) rfl)
theorem w80 {Z : State} {a0 : Array Value} (hw : ∀ d ∈ tables_1, d.before a0 Z = true) : ((Jvm.Cond.superclass "java/util/ArrayList" "java/util/AbstractList")).before a0 Z = true := hw _ (List.mem_of_getElem? (i := 80) rfl)
theorem w81 {Z : State} {a0 : Array Value} (hw : ∀ d ∈ tables_1, d.before a0 Z = true) : ((Jvm.Cond.superclass "java/util/AbstractList" "java/util/AbstractCollection")).before a0 Z = true := hw _ (List.mem_of_getElem? (i := 81) rfl)
theorem w82 {Z : State} {a0 : Array Value} (hw : ∀ d ∈ tables_1, d.before a0 Z = true) : ((Jvm.Cond.superclass "java/util/AbstractCollection" "java/lang/Object")).before a0 Z = true := hw _ (List.mem_of_getElem? (i := 82) rfl)
theorem w83 {Z : State} {a0 : Array Value} (hw : ∀ d ∈ tables_1, d.before a0 Z = true) : ((Jvm.Cond.noSuperclass "java/lang/Object")).before a0 Z = true := hw _ (List.mem_of_getElem? (i := 83) rfl)
theorem w84 {Z : State} {a0 : Array Value} (hw : ∀ d ∈ tables_1, d.before a0 Z = true) : ((Jvm.Cond.classLink "java/util/ImmutableCollections" (12 : Nat) "java/util/ImmutableCollections$ListN")).before a0 Z = true := hw _ (List.mem_of_getElem? (i := 84) rfl)
theorem w85 {Z : State} {a0 : Array Value} (hw : ∀ d ∈ tables_1, d.before a0 Z = true) : ((Jvm.Cond.methodLink "java/util/ImmutableCollections" (20 : Nat) ({ cls := "java/util/Collection", name := "isEmpty", desc := "()Z" } : Jvm.MethodName))).before a0 Z = true := hw _ (List.mem_of_getElem? (i := 85) rfl)
theorem w86 {Z : State} {a0 : Array Value} (hw : ∀ d ∈ tables_1, d.before a0 Z = true) : ((Jvm.Cond.declares ({ cls := "java/util/Collection", name := "isEmpty", desc := "()Z" } : Jvm.MethodName))).before a0 Z = true := hw _ (List.mem_of_getElem? (i := 86) rfl)
theorem w87 {Z : State} {a0 : Array Value} (hw : ∀ d ∈ tables_1, d.before a0 Z = true) : ((Jvm.Cond.interfaceMethod "java/util/Collection" "java/util/Collection" "isEmpty" "()Z")).before a0 Z = true := hw _ (List.mem_of_getElem? (i := 87) rfl)
theorem w88 {Z : State} {a0 : Array Value} (hw : ∀ d ∈ tables_1, d.before a0 Z = true) : ((Jvm.Cond.selects "java/util/ArrayList" ({ cls := "java/util/Collection", name := "isEmpty", desc := "()Z" } : Jvm.MethodName) ({ cls := "java/util/ArrayList", name := "isEmpty", desc := "()Z" } : Jvm.MethodName))).before a0 Z = true := hw _ (List.mem_of_getElem? (i := 88) rfl)
theorem w89 {Z : State} {a0 : Array Value} (hw : ∀ d ∈ tables_1, d.before a0 Z = true) : ((Jvm.Cond.instanceMethod ({ cls := "java/util/ArrayList", name := "isEmpty", desc := "()Z" } : Jvm.MethodName))).before a0 Z = true := hw _ (List.mem_of_getElem? (i := 89) rfl)
theorem w90 {Z : State} {a0 : Array Value} (hw : ∀ d ∈ tables_1, d.before a0 Z = true) : ((Jvm.Cond.publicMethod ({ cls := "java/util/ArrayList", name := "isEmpty", desc := "()Z" } : Jvm.MethodName))).before a0 Z = true := hw _ (List.mem_of_getElem? (i := 90) rfl)
theorem w91 {Z : State} {a0 : Array Value} (hw : ∀ d ∈ tables_1, d.before a0 Z = true) : ((Jvm.Cond.unhidden "java/util/ArrayList" "isEmpty" "()Z")).before a0 Z = true := hw _ (List.mem_of_getElem? (i := 91) rfl)
theorem w92 {Z : State} {a0 : Array Value} (hw : ∀ d ∈ tables_1, d.before a0 Z = true) : ((Jvm.Cond.castable "java/util/ArrayList" "java/util/Collection")).before a0 Z = true := hw _ (List.mem_of_getElem? (i := 92) rfl)
theorem w93 {Z : State} {a0 : Array Value} (hw : ∀ d ∈ tables_1, d.before a0 Z = true) : ((Jvm.Cond.code ({ cls := "java/util/ArrayList", name := "isEmpty", desc := "()Z" } : Jvm.MethodName) jdk_38_method_9_code (1 : Nat) (Option.some Jvm.ClassFile.FieldType.boolean))).before a0 Z = true := hw _ (List.mem_of_getElem? (i := 93) rfl)
theorem w94 {Z : State} {a0 : Array Value} (hw : ∀ d ∈ tables_1, d.before a0 Z = true) : ((Jvm.Cond.fieldLink "java/util/ArrayList" (48 : Nat) "java/util/ArrayList" "size" "I")).before a0 Z = true := hw _ (List.mem_of_getElem? (i := 94) rfl)
theorem w95 {Z : State} {a0 : Array Value} (hw : ∀ d ∈ tables_1, d.before a0 Z = true) : ((Jvm.Cond.lays "java/util/ArrayList" "java/util/ArrayList" "size" "I")).before a0 Z = true := hw _ (List.mem_of_getElem? (i := 95) rfl)
theorem w96 {Z : State} {a0 : Array Value} (hw : ∀ d ∈ tables_1, d.before a0 Z = true) : ((Jvm.Cond.methodLink "java/util/ImmutableCollections" (26 : Nat) ({ cls := "java/util/List", name := "of", desc := "()Ljava/util/List;" } : Jvm.MethodName))).before a0 Z = true := hw _ (List.mem_of_getElem? (i := 96) rfl)
theorem w97 {Z : State} {a0 : Array Value} (hw : ∀ d ∈ tables_1, d.before a0 Z = true) : ((Jvm.Cond.static ({ cls := "java/util/List", name := "of", desc := "()Ljava/util/List;" } : Jvm.MethodName))).before a0 Z = true := hw _ (List.mem_of_getElem? (i := 97) rfl)
theorem w98 {Z : State} {a0 : Array Value} (hw : ∀ d ∈ tables_1, d.before a0 Z = true) : ((Jvm.Cond.code ({ cls := "java/util/List", name := "of", desc := "()Ljava/util/List;" } : Jvm.MethodName) jdk_40_method_36_code (0 : Nat) (Option.some (Jvm.ClassFile.FieldType.object "java/util/List")))).before a0 Z = true := hw _ (List.mem_of_getElem? (i := 98) rfl)
theorem w99 {Z : State} {a0 : Array Value} (hw : ∀ d ∈ tables_1, d.before a0 Z = true) : ((Jvm.Cond.fieldLink "java/util/List" (90 : Nat) "java/util/ImmutableCollections" "EMPTY_LIST" "Ljava/util/ImmutableCollections$ListN;")).before a0 Z = true := hw _ (List.mem_of_getElem? (i := 99) rfl)
theorem w100 {Z : State} {a0 : Array Value} (hw : ∀ d ∈ tables_1, d.before a0 Z = true) : ((Jvm.Cond.fieldLink "com/example/sessn/sessn/log/LoggedQuery" (13 : Nat) "com/example/sessn/sessn/log/LoggedQuery" "text" "Ljava/lang/String;")).before a0 Z = true := hw _ (List.mem_of_getElem? (i := 100) rfl)
theorem w101 {Z : State} {a0 : Array Value} (hw : ∀ d ∈ tables_1, d.before a0 Z = true) : ((Jvm.Cond.laysFinal "com/example/sessn/sessn/log/LoggedQuery" "com/example/sessn/sessn/log/LoggedQuery" "text" "Ljava/lang/String;")).before a0 Z = true := hw _ (List.mem_of_getElem? (i := 101) rfl)
theorem w102 {Z : State} {a0 : Array Value} (hw : ∀ d ∈ tables_1, d.before a0 Z = true) : ((Jvm.Cond.fieldLink "com/example/sessn/sessn/log/LoggedQuery" (19 : Nat) "com/example/sessn/sessn/log/LoggedQuery" "time" "Ljava/time/LocalDateTime;")).before a0 Z = true := hw _ (List.mem_of_getElem? (i := 102) rfl)
theorem w103 {Z : State} {a0 : Array Value} (hw : ∀ d ∈ tables_1, d.before a0 Z = true) : ((Jvm.Cond.laysFinal "com/example/sessn/sessn/log/LoggedQuery" "com/example/sessn/sessn/log/LoggedQuery" "time" "Ljava/time/LocalDateTime;")).before a0 Z = true := hw _ (List.mem_of_getElem? (i := 103) rfl)
theorem w104 {Z : State} {a0 : Array Value} (hw : ∀ d ∈ tables_1, d.before a0 Z = true) : ((Jvm.Cond.fieldLink "com/example/sessn/sessn/log/LoggedQuery" (23 : Nat) "com/example/sessn/sessn/log/LoggedQuery" "results" "Ljava/util/List;")).before a0 Z = true := hw _ (List.mem_of_getElem? (i := 104) rfl)
theorem w105 {Z : State} {a0 : Array Value} (hw : ∀ d ∈ tables_1, d.before a0 Z = true) : ((Jvm.Cond.laysFinal "com/example/sessn/sessn/log/LoggedQuery" "com/example/sessn/sessn/log/LoggedQuery" "results" "Ljava/util/List;")).before a0 Z = true := hw _ (List.mem_of_getElem? (i := 105) rfl)
theorem w106 {Z : State} {a0 : Array Value} (hw : ∀ d ∈ tables_1, d.before a0 Z = true) : ((Jvm.Cond.fieldLink "com/example/sessn/sessn/log/LoggedQuery" (27 : Nat) "com/example/sessn/sessn/log/LoggedQuery" "clicks" "Ljava/util/List;")).before a0 Z = true := hw _ (List.mem_of_getElem? (i := 106) rfl)
theorem w107 {Z : State} {a0 : Array Value} (hw : ∀ d ∈ tables_1, d.before a0 Z = true) : ((Jvm.Cond.laysFinal "com/example/sessn/sessn/log/LoggedQuery" "com/example/sessn/sessn/log/LoggedQuery" "clicks" "Ljava/util/List;")).before a0 Z = true := hw _ (List.mem_of_getElem? (i := 107) rfl)
theorem w108 {Z : State} {a0 : Array Value} (hw : ∀ d ∈ tables_1, d.before a0 Z = true) : ((Jvm.Cond.methodLink "com/example/sessn/sessn/log/LoggedSessionCurrentPinLaw" (17 : Nat) ({ cls := "java/util/ArrayList", name := "add", desc := "(Ljava/lang/Object;)Z" } : Jvm.MethodName))).before a0 Z = true := hw _ (List.mem_of_getElem? (i := 108) rfl)
theorem w109 {Z : State} {a0 : Array Value} (hw : ∀ d ∈ tables_1, d.before a0 Z = true) : ((Jvm.Cond.declares ({ cls := "java/util/ArrayList", name := "add", desc := "(Ljava/lang/Object;)Z" } : Jvm.MethodName))).before a0 Z = true := hw _ (List.mem_of_getElem? (i := 109) rfl)
theorem w110 {Z : State} {a0 : Array Value} (hw : ∀ d ∈ tables_1, d.before a0 Z = true) : ((Jvm.Cond.instanceMethod ({ cls := "java/util/ArrayList", name := "add", desc := "(Ljava/lang/Object;)Z" } : Jvm.MethodName))).before a0 Z = true := hw _ (List.mem_of_getElem? (i := 110) rfl)
theorem w111 {Z : State} {a0 : Array Value} (hw : ∀ d ∈ tables_1, d.before a0 Z = true) : ((Jvm.Cond.selects "java/util/ArrayList" ({ cls := "java/util/ArrayList", name := "add", desc := "(Ljava/lang/Object;)Z" } : Jvm.MethodName) ({ cls := "java/util/ArrayList", name := "add", desc := "(Ljava/lang/Object;)Z" } : Jvm.MethodName))).before a0 Z = true := hw _ (List.mem_of_getElem? (i := 111) rfl)
theorem w112 {Z : State} {a0 : Array Value} (hw : ∀ d ∈ tables_1, d.before a0 Z = true) : ((Jvm.Cond.code ({ cls := "java/util/ArrayList", name := "add", desc := "(Ljava/lang/Object;)Z" } : Jvm.MethodName) jdk_38_method_25_code (2 : Nat) (Option.some Jvm.ClassFile.FieldType.boolean))).before a0 Z = true := hw _ (List.mem_of_getElem? (i := 112) rfl)
theorem w113 {Z : State} {a0 : Array Value} (hw : ∀ d ∈ tables_1, d.before a0 Z = true) : ((Jvm.Cond.fieldLink "java/util/ArrayList" (63 : Nat) "java/util/ArrayList" "modCount" "I")).before a0 Z = true := hw _ (List.mem_of_getElem? (i := 113) rfl)
theorem w114 {Z : State} {a0 : Array Value} (hw : ∀ d ∈ tables_1, d.before a0 Z = true) : ((Jvm.Cond.sameField "java/util/ArrayList" "java/util/AbstractList" "modCount" "I")).before a0 Z = true := hw _ (List.mem_of_getElem? (i := 114) rfl)
theorem w115 {Z : State} {a0 : Array Value} (hw : ∀ d ∈ tables_1, d.before a0 Z = true) : ((Jvm.Cond.methodLink "java/util/ArrayList" (131 : Nat) ({ cls := "java/util/ArrayList", name := "add", desc := "(Ljava/lang/Object;[Ljava/lang/Object;I)V" } : Jvm.MethodName))).before a0 Z = true := hw _ (List.mem_of_getElem? (i := 115) rfl)
theorem w116 {Z : State} {a0 : Array Value} (hw : ∀ d ∈ tables_1, d.before a0 Z = true) : ((Jvm.Cond.instanceMethod ({ cls := "java/util/ArrayList", name := "add", desc := "(Ljava/lang/Object;[Ljava/lang/Object;I)V" } : Jvm.MethodName))).before a0 Z = true := hw _ (List.mem_of_getElem? (i := 116) rfl)
theorem w117 {Z : State} {a0 : Array Value} (hw : ∀ d ∈ tables_1, d.before a0 Z = true) : ((Jvm.Cond.privateMethod ({ cls := "java/util/ArrayList", name := "add", desc := "(Ljava/lang/Object;[Ljava/lang/Object;I)V" } : Jvm.MethodName))).before a0 Z = true := hw _ (List.mem_of_getElem? (i := 117) rfl)
theorem w118 {Z : State} {a0 : Array Value} (hw : ∀ d ∈ tables_1, d.before a0 Z = true) : ((Jvm.Cond.selects "java/util/ArrayList" ({ cls := "java/util/ArrayList", name := "add", desc := "(Ljava/lang/Object;[Ljava/lang/Object;I)V" } : Jvm.MethodName) ({ cls := "java/util/ArrayList", name := "add", desc := "(Ljava/lang/Object;[Ljava/lang/Object;I)V" } : Jvm.MethodName))).before a0 Z = true := hw _ (List.mem_of_getElem? (i := 118) rfl)
theorem w119 {Z : State} {a0 : Array Value} (hw : ∀ d ∈ tables_1, d.before a0 Z = true) : ((Jvm.Cond.code ({ cls := "java/util/ArrayList", name := "add", desc := "(Ljava/lang/Object;[Ljava/lang/Object;I)V" } : Jvm.MethodName) jdk_38_method_24_code (4 : Nat) (Option.none : Option Jvm.ClassFile.FieldType))).before a0 Z = true := hw _ (List.mem_of_getElem? (i := 119) rfl)
theorem w120 {Z : State} {a0 : Array Value} (hw : ∀ d ∈ tables_1, d.before a0 Z = true) : ((Jvm.Cond.methodLink "java/util/ArrayList" (129 : Nat) ({ cls := "java/util/ArrayList", name := "grow", desc := "()[Ljava/lang/Object;" } : Jvm.MethodName))).before a0 Z = true := hw _ (List.mem_of_getElem? (i := 120) rfl)
theorem w121 {Z : State} {a0 : Array Value} (hw : ∀ d ∈ tables_1, d.before a0 Z = true) : ((Jvm.Cond.instanceMethod ({ cls := "java/util/ArrayList", name := "grow", desc := "()[Ljava/lang/Object;" } : Jvm.MethodName))).before a0 Z = true := hw _ (List.mem_of_getElem? (i := 121) rfl)
theorem w122 {Z : State} {a0 : Array Value} (hw : ∀ d ∈ tables_1, d.before a0 Z = true) : ((Jvm.Cond.privateMethod ({ cls := "java/util/ArrayList", name := "grow", desc := "()[Ljava/lang/Object;" } : Jvm.MethodName))).before a0 Z = true := hw _ (List.mem_of_getElem? (i := 122) rfl)
theorem w123 {Z : State} {a0 : Array Value} (hw : ∀ d ∈ tables_1, d.before a0 Z = true) : ((Jvm.Cond.selects "java/util/ArrayList" ({ cls := "java/util/ArrayList", name := "grow", desc := "()[Ljava/lang/Object;" } : Jvm.MethodName) ({ cls := "java/util/ArrayList", name := "grow", desc := "()[Ljava/lang/Object;" } : Jvm.MethodName))).before a0 Z = true := hw _ (List.mem_of_getElem? (i := 123) rfl)
theorem w124 {Z : State} {a0 : Array Value} (hw : ∀ d ∈ tables_1, d.before a0 Z = true) : ((Jvm.Cond.code ({ cls := "java/util/ArrayList", name := "grow", desc := "()[Ljava/lang/Object;" } : Jvm.MethodName) jdk_38_method_7_code (1 : Nat) (Option.some (Jvm.ClassFile.FieldType.array (Jvm.ClassFile.FieldType.object "java/lang/Object"))))).before a0 Z = true := hw _ (List.mem_of_getElem? (i := 124) rfl)
theorem w125 {Z : State} {a0 : Array Value} (hw : ∀ d ∈ tables_1, d.before a0 Z = true) : ((Jvm.Cond.methodLink "java/util/ArrayList" (69 : Nat) ({ cls := "java/util/ArrayList", name := "grow", desc := "(I)[Ljava/lang/Object;" } : Jvm.MethodName))).before a0 Z = true := hw _ (List.mem_of_getElem? (i := 125) rfl)
theorem w126 {Z : State} {a0 : Array Value} (hw : ∀ d ∈ tables_1, d.before a0 Z = true) : ((Jvm.Cond.instanceMethod ({ cls := "java/util/ArrayList", name := "grow", desc := "(I)[Ljava/lang/Object;" } : Jvm.MethodName))).before a0 Z = true := hw _ (List.mem_of_getElem? (i := 126) rfl)
theorem w127 {Z : State} {a0 : Array Value} (hw : ∀ d ∈ tables_1, d.before a0 Z = true) : ((Jvm.Cond.privateMethod ({ cls := "java/util/ArrayList", name := "grow", desc := "(I)[Ljava/lang/Object;" } : Jvm.MethodName))).before a0 Z = true := hw _ (List.mem_of_getElem? (i := 127) rfl)
theorem w128 {Z : State} {a0 : Array Value} (hw : ∀ d ∈ tables_1, d.before a0 Z = true) : ((Jvm.Cond.selects "java/util/ArrayList" ({ cls := "java/util/ArrayList", name := "grow", desc := "(I)[Ljava/lang/Object;" } : Jvm.MethodName) ({ cls := "java/util/ArrayList", name := "grow", desc := "(I)[Ljava/lang/Object;" } : Jvm.MethodName))).before a0 Z = true := hw _ (List.mem_of_getElem? (i := 128) rfl)
theorem w129 {Z : State} {a0 : Array Value} (hw : ∀ d ∈ tables_1, d.before a0 Z = true) : ((Jvm.Cond.code ({ cls := "java/util/ArrayList", name := "grow", desc := "(I)[Ljava/lang/Object;" } : Jvm.MethodName) jdk_38_method_6_code (4 : Nat) (Option.some (Jvm.ClassFile.FieldType.array (Jvm.ClassFile.FieldType.object "java/lang/Object"))))).before a0 Z = true := hw _ (List.mem_of_getElem? (i := 129) rfl)
theorem w130 {Z : State} {a0 : Array Value} (hw : ∀ d ∈ tables_1, d.before a0 Z = true) : ((Jvm.Cond.methodLink "java/util/ArrayList" (79 : Nat) ({ cls := "java/lang/Math", name := "max", desc := "(II)I" } : Jvm.MethodName))).before a0 Z = true := hw _ (List.mem_of_getElem? (i := 130) rfl)
theorem w131 {Z : State} {a0 : Array Value} (hw : ∀ d ∈ tables_1, d.before a0 Z = true) : ((Jvm.Cond.static ({ cls := "java/lang/Math", name := "max", desc := "(II)I" } : Jvm.MethodName))).before a0 Z = true := hw _ (List.mem_of_getElem? (i := 131) rfl)
theorem w132 {Z : State} {a0 : Array Value} (hw : ∀ d ∈ tables_1, d.before a0 Z = true) : ((Jvm.Cond.initialized "java/lang/Math")).before a0 Z = true := hw _ (List.mem_of_getElem? (i := 132) rfl)
theorem w133 {Z : State} {a0 : Array Value} (hw : ∀ d ∈ tables_1, d.before a0 Z = true) : ((Jvm.Cond.code ({ cls := "java/lang/Math", name := "max", desc := "(II)I" } : Jvm.MethodName) jdk_29_method_65_code (2 : Nat) (Option.some Jvm.ClassFile.FieldType.int))).before a0 Z = true := hw _ (List.mem_of_getElem? (i := 133) rfl)
theorem w134 {Z : State} {a0 : Array Value} (hw : ∀ d ∈ tables_1, d.before a0 Z = true) : ((Jvm.Cond.classLink "java/util/ArrayList" (7 : Nat) "java/lang/Object")).before a0 Z = true := hw _ (List.mem_of_getElem? (i := 134) rfl)
theorem w135 {Z : State} {a0 : Array Value} (hw : ∀ d ∈ tables_1, d.before a0 Z = true) : ((Jvm.Cond.arrayOver (Jvm.ClassFile.FieldType.object "java/lang/Object"))).before a0 Z = true := hw _ (List.mem_of_getElem? (i := 135) rfl)
theorem w136 {Z : State} {a0 : Array Value} (hw : ∀ d ∈ tables_1, d.before a0 Z = true) : ((Jvm.Cond.castable "com/example/sessn/sessn/log/LoggedQuery" "java/lang/Object")).before a0 Z = true := hw _ (List.mem_of_getElem? (i := 136) rfl)
theorem w137 {Z : State} {a0 : Array Value} (hw : ∀ d ∈ tables_1, d.before a0 Z = true) : ((Jvm.Cond.classLink "com/example/sessn/sessn/log/LoggedSessionCurrentPinLaw" (21 : Nat) "com/example/sessn/sessn/log/LoggedSession")).before a0 Z = true := hw _ (List.mem_of_getElem? (i := 137) rfl)
theorem w138 {Z : State} {a0 : Array Value} (hw : ∀ d ∈ tables_1, d.before a0 Z = true) : ((Jvm.Cond.instantiable "com/example/sessn/sessn/log/LoggedSession" (2 : Nat))).before a0 Z = true := hw _ (List.mem_of_getElem? (i := 138) rfl)
theorem w139 {Z : State} {a0 : Array Value} (hw : ∀ d ∈ tables_1, d.before a0 Z = true) : ((Jvm.Cond.initialized "com/example/sessn/sessn/log/LoggedSession")).before a0 Z = true := hw _ (List.mem_of_getElem? (i := 139) rfl)
theorem w140 {Z : State} {a0 : Array Value} (hw : ∀ d ∈ tables_1, d.before a0 Z = true) : ((Jvm.Cond.stringLink "com/example/sessn/sessn/log/LoggedSessionCurrentPinLaw" (23 : Nat) "s1")).before a0 Z = true := hw _ (List.mem_of_getElem? (i := 140) rfl)
theorem w143 {Z : State} {a0 : Array Value} (hw : ∀ d ∈ tables_1, d.before a0 Z = true) : ((Jvm.Cond.methodLink "com/example/sessn/sessn/log/LoggedSessionCurrentPinLaw" (25 : Nat) ({ cls := "com/example/sessn/sessn/log/LoggedSession", name := "<init>", desc := "(Ljava/lang/String;Ljava/util/List;)V" } : Jvm.MethodName))).before a0 Z = true := hw _ (List.mem_of_getElem? (i := 143) rfl)
theorem w144 {Z : State} {a0 : Array Value} (hw : ∀ d ∈ tables_1, d.before a0 Z = true) : ((Jvm.Cond.instanceMethod ({ cls := "com/example/sessn/sessn/log/LoggedSession", name := "<init>", desc := "(Ljava/lang/String;Ljava/util/List;)V" } : Jvm.MethodName))).before a0 Z = true := hw _ (List.mem_of_getElem? (i := 144) rfl)
theorem w145 {Z : State} {a0 : Array Value} (hw : ∀ d ∈ tables_1, d.before a0 Z = true) : ((Jvm.Cond.code ({ cls := "com/example/sessn/sessn/log/LoggedSession", name := "<init>", desc := "(Ljava/lang/String;Ljava/util/List;)V" } : Jvm.MethodName) prog_20_method_1_code (3 : Nat) (Option.none : Option Jvm.ClassFile.FieldType))).before a0 Z = true := hw _ (List.mem_of_getElem? (i := 145) rfl)
theorem w146 {Z : State} {a0 : Array Value} (hw : ∀ d ∈ tables_1, d.before a0 Z = true) : ((Jvm.Cond.methodLink "com/example/sessn/sessn/log/LoggedSession" (1 : Nat) ({ cls := "java/lang/Record", name := "<init>", desc := "()V" } : Jvm.MethodName))).before a0 Z = true := hw _ (List.mem_of_getElem? (i := 146) rfl)
theorem w147 {Z : State} {a0 : Array Value} (hw : ∀ d ∈ tables_1, d.before a0 Z = true) : ((Jvm.Cond.methodLink "com/example/sessn/sessn/log/LoggedSession" (7 : Nat) ({ cls := "java/util/List", name := "isEmpty", desc := "()Z" } : Jvm.MethodName))).before a0 Z = true := hw _ (List.mem_of_getElem? (i := 147) rfl)
theorem w148 {Z : State} {a0 : Array Value} (hw : ∀ d ∈ tables_1, d.before a0 Z = true) : ((Jvm.Cond.declares ({ cls := "java/util/List", name := "isEmpty", desc := "()Z" } : Jvm.MethodName))).before a0 Z = true := hw _ (List.mem_of_getElem? (i := 148) rfl)
theorem w149 {Z : State} {a0 : Array Value} (hw : ∀ d ∈ tables_1, d.before a0 Z = true) : ((Jvm.Cond.interfaceMethod "java/util/List" "java/util/List" "isEmpty" "()Z")).before a0 Z = true := hw _ (List.mem_of_getElem? (i := 149) rfl)
theorem w150 {Z : State} {a0 : Array Value} (hw : ∀ d ∈ tables_1, d.before a0 Z = true) : ((Jvm.Cond.selects "java/util/ArrayList" ({ cls := "java/util/List", name := "isEmpty", desc := "()Z" } : Jvm.MethodName) ({ cls := "java/util/ArrayList", name := "isEmpty", desc := "()Z" } : Jvm.MethodName))).before a0 Z = true := hw _ (List.mem_of_getElem? (i := 150) rfl)
theorem w151 {Z : State} {a0 : Array Value} (hw : ∀ d ∈ tables_1, d.before a0 Z = true) : ((Jvm.Cond.castable "java/util/ArrayList" "java/util/List")).before a0 Z = true := hw _ (List.mem_of_getElem? (i := 151) rfl)
theorem w152 {Z : State} {a0 : Array Value} (hw : ∀ d ∈ tables_1, d.before a0 Z = true) : ((Jvm.Cond.methodLink "com/example/sessn/sessn/log/LoggedSession" (22 : Nat) ({ cls := "java/util/List", name := "copyOf", desc := "(Ljava/util/Collection;)Ljava/util/List;" } : Jvm.MethodName))).before a0 Z = true := hw _ (List.mem_of_getElem? (i := 152) rfl)
theorem w153 {Z : State} {a0 : Array Value} (hw : ∀ d ∈ tables_1, d.before a0 Z = true) : ((Jvm.Cond.methodLink "java/util/ImmutableCollections" (30 : Nat) ({ cls := "java/util/Collection", name := "toArray", desc := "()[Ljava/lang/Object;" } : Jvm.MethodName))).before a0 Z = true := hw _ (List.mem_of_getElem? (i := 153) rfl)
theorem w154 {Z : State} {a0 : Array Value} (hw : ∀ d ∈ tables_1, d.before a0 Z = true) : ((Jvm.Cond.declares ({ cls := "java/util/Collection", name := "toArray", desc := "()[Ljava/lang/Object;" } : Jvm.MethodName))).before a0 Z = true := hw _ (List.mem_of_getElem? (i := 154) rfl)
theorem w155 {Z : State} {a0 : Array Value} (hw : ∀ d ∈ tables_1, d.before a0 Z = true) : ((Jvm.Cond.interfaceMethod "java/util/Collection" "java/util/Collection" "toArray" "()[Ljava/lang/Object;")).before a0 Z = true := hw _ (List.mem_of_getElem? (i := 155) rfl)
theorem w156 {Z : State} {a0 : Array Value} (hw : ∀ d ∈ tables_1, d.before a0 Z = true) : ((Jvm.Cond.selects "java/util/ArrayList" ({ cls := "java/util/Collection", name := "toArray", desc := "()[Ljava/lang/Object;" } : Jvm.MethodName) ({ cls := "java/util/ArrayList", name := "toArray", desc := "()[Ljava/lang/Object;" } : Jvm.MethodName))).before a0 Z = true := hw _ (List.mem_of_getElem? (i := 156) rfl)
theorem w157 {Z : State} {a0 : Array Value} (hw : ∀ d ∈ tables_1, d.before a0 Z = true) : ((Jvm.Cond.instanceMethod ({ cls := "java/util/ArrayList", name := "toArray", desc := "()[Ljava/lang/Object;" } : Jvm.MethodName))).before a0 Z = true := hw _ (List.mem_of_getElem? (i := 157) rfl)
theorem w158 {Z : State} {a0 : Array Value} (hw : ∀ d ∈ tables_1, d.before a0 Z = true) : ((Jvm.Cond.publicMethod ({ cls := "java/util/ArrayList", name := "toArray", desc := "()[Ljava/lang/Object;" } : Jvm.MethodName))).before a0 Z = true := hw _ (List.mem_of_getElem? (i := 158) rfl)
theorem w159 {Z : State} {a0 : Array Value} (hw : ∀ d ∈ tables_1, d.before a0 Z = true) : ((Jvm.Cond.unhidden "java/util/ArrayList" "toArray" "()[Ljava/lang/Object;")).before a0 Z = true := hw _ (List.mem_of_getElem? (i := 159) rfl)
theorem w160 {Z : State} {a0 : Array Value} (hw : ∀ d ∈ tables_1, d.before a0 Z = true) : ((Jvm.Cond.code ({ cls := "java/util/ArrayList", name := "toArray", desc := "()[Ljava/lang/Object;" } : Jvm.MethodName) jdk_38_method_16_code (1 : Nat) (Option.some (Jvm.ClassFile.FieldType.array (Jvm.ClassFile.FieldType.object "java/lang/Object"))))).before a0 Z = true := hw _ (List.mem_of_getElem? (i := 160) rfl)
theorem w161 {Z : State} {a0 : Array Value} (hw : ∀ d ∈ tables_1, d.before a0 Z = true) : ((Jvm.Cond.methodLink "java/util/ArrayList" (66 : Nat) ({ cls := "java/util/Arrays", name := "copyOf", desc := "([Ljava/lang/Object;I)[Ljava/lang/Object;" } : Jvm.MethodName))).before a0 Z = true := hw _ (List.mem_of_getElem? (i := 161) rfl)
theorem w162 {Z : State} {a0 : Array Value} (hw : ∀ d ∈ tables_1, d.before a0 Z = true) : ((Jvm.Cond.static ({ cls := "java/util/Arrays", name := "copyOf", desc := "([Ljava/lang/Object;I)[Ljava/lang/Object;" } : Jvm.MethodName))).before a0 Z = true := hw _ (List.mem_of_getElem? (i := 162) rfl)
theorem w163 {Z : State} {a0 : Array Value} (hw : ∀ d ∈ tables_1, d.before a0 Z = true) : ((Jvm.Cond.initialized "java/util/Arrays")).before a0 Z = true := hw _ (List.mem_of_getElem? (i := 163) rfl)
theorem w164 {Z : State} {a0 : Array Value} (hw : ∀ d ∈ tables_1, d.before a0 Z = true) : ((Jvm.Cond.code ({ cls := "java/util/Arrays", name := "copyOf", desc := "([Ljava/lang/Object;I)[Ljava/lang/Object;" } : Jvm.MethodName) jdk_65_method_119_code (2 : Nat) (Option.some (Jvm.ClassFile.FieldType.array (Jvm.ClassFile.FieldType.object "java/lang/Object"))))).before a0 Z = true := hw _ (List.mem_of_getElem? (i := 164) rfl)
theorem w165 {Z : State} {a0 : Array Value} (hw : ∀ d ∈ tables_1, d.before a0 Z = true) : ((Jvm.Cond.methodLink "java/util/Arrays" (86 : Nat) ({ cls := "java/lang/Object", name := "getClass", desc := "()Ljava/lang/Class;" } : Jvm.MethodName))).before a0 Z = true := hw _ (List.mem_of_getElem? (i := 165) rfl)
theorem w166 {Z : State} {a0 : Array Value} (hw : ∀ d ∈ tables_1, d.before a0 Z = true) : ((Jvm.Cond.declares ({ cls := "java/lang/Object", name := "getClass", desc := "()Ljava/lang/Class;" } : Jvm.MethodName))).before a0 Z = true := hw _ (List.mem_of_getElem? (i := 166) rfl)
theorem w167 {Z : State} {a0 : Array Value} (hw : ∀ d ∈ tables_1, d.before a0 Z = true) : ((Jvm.Cond.instanceMethod ({ cls := "java/lang/Object", name := "getClass", desc := "()Ljava/lang/Class;" } : Jvm.MethodName))).before a0 Z = true := hw _ (List.mem_of_getElem? (i := 167) rfl)
theorem w168 {Z : State} {a0 : Array Value} (hw : ∀ d ∈ tables_1, d.before a0 Z = true) : ((Jvm.Cond.selects "[Ljava/lang/Object;" ({ cls := "java/lang/Object", name := "getClass", desc := "()Ljava/lang/Class;" } : Jvm.MethodName) ({ cls := "java/lang/Object", name := "getClass", desc := "()Ljava/lang/Class;" } : Jvm.MethodName))).before a0 Z = true := hw _ (List.mem_of_getElem? (i := 168) rfl)
theorem w169 {Z : State} {a0 : Array Value} (hw : ∀ d ∈ tables_1, d.before a0 Z = true) : ((Jvm.Cond.native ({ cls := "java/lang/Object", name := "getClass", desc := "()Ljava/lang/Class;" } : Jvm.MethodName))).before a0 Z = true := hw _ (List.mem_of_getElem? (i := 169) rfl)
theorem w171 {Z : State} {a0 : Array Value} (hw : ∀ d ∈ tables_1, d.before a0 Z = true) : ((Jvm.Cond.methodLink "java/util/Arrays" (300 : Nat) ({ cls := "java/util/Arrays", name := "copyOf", desc := "([Ljava/lang/Object;ILjava/lang/Class;)[Ljava/lang/Object;" } : Jvm.MethodName))).before a0 Z = true := hw _ (List.mem_of_getElem? (i := 171) rfl)
theorem w172 {Z : State} {a0 : Array Value} (hw : ∀ d ∈ tables_1, d.before a0 Z = true) : ((Jvm.Cond.static ({ cls := "java/util/Arrays", name := "copyOf", desc := "([Ljava/lang/Object;ILjava/lang/Class;)[Ljava/lang/Object;" } : Jvm.MethodName))).before a0 Z = true := hw _ (List.mem_of_getElem? (i := 172) rfl)
theorem w173 {Z : State} {a0 : Array Value} (hw : ∀ d ∈ tables_1, d.before a0 Z = true) : ((Jvm.Cond.code ({ cls := "java/util/Arrays", name := "copyOf", desc := "([Ljava/lang/Object;ILjava/lang/Class;)[Ljava/lang/Object;" } : Jvm.MethodName) jdk_65_method_120_code (4 : Nat) (Option.some (Jvm.ClassFile.FieldType.array (Jvm.ClassFile.FieldType.object "java/lang/Object"))))).before a0 Z = true := hw _ (List.mem_of_getElem? (i := 173) rfl)
theorem w174 {Z : State} {a0 : Array Value} (hw : ∀ d ∈ tables_1, d.before a0 Z = true) : ((Jvm.Cond.classLink "java/util/Arrays" (110 : Nat) "[Ljava/lang/Object;")).before a0 Z = true := hw _ (List.mem_of_getElem? (i := 174) rfl)
theorem w175 {Z : State} {a0 : Array Value} (hw : ∀ d ∈ tables_1, d.before a0 Z = true) : ((Jvm.Cond.classLink "java/util/Arrays" (2 : Nat) "java/lang/Object")).before a0 Z = true := hw _ (List.mem_of_getElem? (i := 175) rfl)
theorem w176 {Z : State} {a0 : Array Value} (hw : ∀ d ∈ tables_1, d.before a0 Z = true) : ((Jvm.Cond.methodLink "java/util/Arrays" (304 : Nat) ({ cls := "java/lang/Math", name := "min", desc := "(II)I" } : Jvm.MethodName))).before a0 Z = true := hw _ (List.mem_of_getElem? (i := 176) rfl)
theorem w177 {Z : State} {a0 : Array Value} (hw : ∀ d ∈ tables_1, d.before a0 Z = true) : ((Jvm.Cond.static ({ cls := "java/lang/Math", name := "min", desc := "(II)I" } : Jvm.MethodName))).before a0 Z = true := hw _ (List.mem_of_getElem? (i := 177) rfl)
theorem w178 {Z : State} {a0 : Array Value} (hw : ∀ d ∈ tables_1, d.before a0 Z = true) : ((Jvm.Cond.code ({ cls := "java/lang/Math", name := "min", desc := "(II)I" } : Jvm.MethodName) jdk_29_method_69_code (2 : Nat) (Option.some Jvm.ClassFile.FieldType.int))).before a0 Z = true := hw _ (List.mem_of_getElem? (i := 178) rfl)
theorem w179 {Z : State} {a0 : Array Value} (hw : ∀ d ∈ tables_1, d.before a0 Z = true) : ((Jvm.Cond.methodLink "java/util/Arrays" (150 : Nat) ({ cls := "java/lang/System", name := "arraycopy", desc := "(Ljava/lang/Object;ILjava/lang/Object;II)V" } : Jvm.MethodName))).before a0 Z = true := hw _ (List.mem_of_getElem? (i := 179) rfl)
theorem w180 {Z : State} {a0 : Array Value} (hw : ∀ d ∈ tables_1, d.before a0 Z = true) : ((Jvm.Cond.static ({ cls := "java/lang/System", name := "arraycopy", desc := "(Ljava/lang/Object;ILjava/lang/Object;II)V" } : Jvm.MethodName))).before a0 Z = true := hw _ (List.mem_of_getElem? (i := 180) rfl)
theorem w181 {Z : State} {a0 : Array Value} (hw : ∀ d ∈ tables_1, d.before a0 Z = true) : ((Jvm.Cond.initialized "java/lang/System")).before a0 Z = true := hw _ (List.mem_of_getElem? (i := 181) rfl)
theorem w182 {Z : State} {a0 : Array Value} (hw : ∀ d ∈ tables_1, d.before a0 Z = true) : ((Jvm.Cond.native ({ cls := "java/lang/System", name := "arraycopy", desc := "(Ljava/lang/Object;ILjava/lang/Object;II)V" } : Jvm.MethodName))).before a0 Z = true := hw _ (List.mem_of_getElem? (i := 182) rfl)
theorem w183 {Z : State} {a0 : Array Value} (hw : ∀ d ∈ tables_1, d.before a0 Z = true) : ((Jvm.Cond.methodLink "java/util/ImmutableCollections" (34 : Nat) ({ cls := "java/util/List", name := "of", desc := "([Ljava/lang/Object;)Ljava/util/List;" } : Jvm.MethodName))).before a0 Z = true := hw _ (List.mem_of_getElem? (i := 183) rfl)
theorem w184 {Z : State} {a0 : Array Value} (hw : ∀ d ∈ tables_1, d.before a0 Z = true) : ((Jvm.Cond.static ({ cls := "java/util/List", name := "of", desc := "([Ljava/lang/Object;)Ljava/util/List;" } : Jvm.MethodName))).before a0 Z = true := hw _ (List.mem_of_getElem? (i := 184) rfl)
theorem w185 {Z : State} {a0 : Array Value} (hw : ∀ d ∈ tables_1, d.before a0 Z = true) : ((Jvm.Cond.code ({ cls := "java/util/List", name := "of", desc := "([Ljava/lang/Object;)Ljava/util/List;" } : Jvm.MethodName) jdk_40_method_47_code (2 : Nat) (Option.some (Jvm.ClassFile.FieldType.object "java/util/List")))).before a0 Z = true := hw _ (List.mem_of_getElem? (i := 185) rfl)
theorem w186 {Z : State} {a0 : Array Value} (hw : ∀ d ∈ tables_1, d.before a0 Z = true) : ((Jvm.Cond.classLink "java/util/List" (96 : Nat) "java/util/ImmutableCollections$List12")).before a0 Z = true := hw _ (List.mem_of_getElem? (i := 186) rfl)
theorem w187 {Z : State} {a0 : Array Value} (hw : ∀ d ∈ tables_1, d.before a0 Z = true) : ((Jvm.Cond.instantiable "java/util/ImmutableCollections$List12" (2 : Nat))).before a0 Z = true := hw _ (List.mem_of_getElem? (i := 187) rfl)
theorem w188 {Z : State} {a0 : Array Value} (hw : ∀ d ∈ tables_1, d.before a0 Z = true) : ((Jvm.Cond.initialized "java/util/ImmutableCollections$List12")).before a0 Z = true := hw _ (List.mem_of_getElem? (i := 188) rfl)
theorem w189 {Z : State} {a0 : Array Value} (hw : ∀ d ∈ tables_1, d.before a0 Z = true) : ((Jvm.Cond.methodLink "java/util/List" (98 : Nat) ({ cls := "java/util/ImmutableCollections$List12", name := "<init>", desc := "(Ljava/lang/Object;)V" } : Jvm.MethodName))).before a0 Z = true := hw _ (List.mem_of_getElem? (i := 189) rfl)
theorem w190 {Z : State} {a0 : Array Value} (hw : ∀ d ∈ tables_1, d.before a0 Z = true) : ((Jvm.Cond.instanceMethod ({ cls := "java/util/ImmutableCollections$List12", name := "<init>", desc := "(Ljava/lang/Object;)V" } : Jvm.MethodName))).before a0 Z = true := hw _ (List.mem_of_getElem? (i := 190) rfl)
theorem w192 {Z : State} {a0 : Array Value} (hw : ∀ d ∈ tables_1, d.before a0 Z = true) : ((Jvm.Cond.code ({ cls := "java/util/ImmutableCollections$List12", name := "<init>", desc := "(Ljava/lang/Object;)V" } : Jvm.MethodName) jdk_44_method_1_code (2 : Nat) (Option.none : Option Jvm.ClassFile.FieldType))).before a0 Z = true := hw _ (List.mem_of_getElem? (i := 192) rfl)
theorem w193 {Z : State} {a0 : Array Value} (hw : ∀ d ∈ tables_1, d.before a0 Z = true) : ((Jvm.Cond.methodLink "java/util/ImmutableCollections$List12" (1 : Nat) ({ cls := "java/util/ImmutableCollections$AbstractImmutableList", name := "<init>", desc := "()V" } : Jvm.MethodName))).before a0 Z = true := hw _ (List.mem_of_getElem? (i := 193) rfl)
theorem w194 {Z : State} {a0 : Array Value} (hw : ∀ d ∈ tables_1, d.before a0 Z = true) : ((Jvm.Cond.instanceMethod ({ cls := "java/util/ImmutableCollections$AbstractImmutableList", name := "<init>", desc := "()V" } : Jvm.MethodName))).before a0 Z = true := hw _ (List.mem_of_getElem? (i := 194) rfl)
theorem w197 {Z : State} {a0 : Array Value} (hw : ∀ d ∈ tables_1, d.before a0 Z = true) : ((Jvm.Cond.initialized "java/util/ImmutableCollections$AbstractImmutableList")).before a0 Z = true := hw _ (List.mem_of_getElem? (i := 197) rfl)
theorem w198 {Z : State} {a0 : Array Value} (hw : ∀ d ∈ tables_1, d.before a0 Z = true) : ((Jvm.Cond.code ({ cls := "java/util/ImmutableCollections$AbstractImmutableList", name := "<init>", desc := "()V" } : Jvm.MethodName) jdk_46_method_1_code (1 : Nat) (Option.none : Option Jvm.ClassFile.FieldType))).before a0 Z = true := hw _ (List.mem_of_getElem? (i := 198) rfl)
theorem w199 {Z : State} {a0 : Array Value} (hw : ∀ d ∈ tables_1, d.before a0 Z = true) : ((Jvm.Cond.methodLink "java/util/ImmutableCollections$AbstractImmutableList" (1 : Nat) ({ cls := "java/util/ImmutableCollections$AbstractImmutableCollection", name := "<init>", desc := "()V" } : Jvm.MethodName))).before a0 Z = true := hw _ (List.mem_of_getElem? (i := 199) rfl)
theorem w200 {Z : State} {a0 : Array Value} (hw : ∀ d ∈ tables_1, d.before a0 Z = true) : ((Jvm.Cond.instanceMethod ({ cls := "java/util/ImmutableCollections$AbstractImmutableCollection", name := "<init>", desc := "()V" } : Jvm.MethodName))).before a0 Z = true := hw _ (List.mem_of_getElem? (i := 200) rfl)
theorem w203 {Z : State} {a0 : Array Value} (hw : ∀ d ∈ tables_1, d.before a0 Z = true) : ((Jvm.Cond.initialized "java/util/ImmutableCollections$AbstractImmutableCollection")).before a0 Z = true := hw _ (List.mem_of_getElem? (i := 203) rfl)
theorem w204 {Z : State} {a0 : Array Value} (hw : ∀ d ∈ tables_1, d.before a0 Z = true) : ((Jvm.Cond.code ({ cls := "java/util/ImmutableCollections$AbstractImmutableCollection", name := "<init>", desc := "()V" } : Jvm.MethodName) jdk_47_method_1_code (1 : Nat) (Option.none : Option Jvm.ClassFile.FieldType))).before a0 Z = true := hw _ (List.mem_of_getElem? (i := 204) rfl)
theorem w205 {Z : State} {a0 : Array Value} (hw : ∀ d ∈ tables_1, d.before a0 Z = true) : ((Jvm.Cond.methodLink "java/util/ImmutableCollections$AbstractImmutableCollection" (1 : Nat) ({ cls := "java/util/AbstractCollection", name := "<init>", desc := "()V" } : Jvm.MethodName))).before a0 Z = true := hw _ (List.mem_of_getElem? (i := 205) rfl)
theorem w207 {Z : State} {a0 : Array Value} (hw : ∀ d ∈ tables_1, d.before a0 Z = true) : ((Jvm.Cond.methodLink "java/util/ImmutableCollections$List12" (7 : Nat) ({ cls := "java/util/Objects", name := "requireNonNull", desc := "(Ljava/lang/Object;)Ljava/lang/Object;" } : Jvm.MethodName))).before a0 Z = true := hw _ (List.mem_of_getElem? (i := 207) rfl)
theorem w208 {Z : State} {a0 : Array Value} (hw : ∀ d ∈ tables_1, d.before a0 Z = true) : ((Jvm.Cond.static ({ cls := "java/util/Objects", name := "requireNonNull", desc := "(Ljava/lang/Object;)Ljava/lang/Object;" } : Jvm.MethodName))).before a0 Z = true := hw _ (List.mem_of_getElem? (i := 208) rfl)
theorem w209 {Z : State} {a0 : Array Value} (hw : ∀ d ∈ tables_1, d.before a0 Z = true) : ((Jvm.Cond.initialized "java/util/Objects")).before a0 Z = true := hw _ (List.mem_of_getElem? (i := 209) rfl)
theorem w210 {Z : State} {a0 : Array Value} (hw : ∀ d ∈ tables_1, d.before a0 Z = true) : ((Jvm.Cond.code ({ cls := "java/util/Objects", name := "requireNonNull", desc := "(Ljava/lang/Object;)Ljava/lang/Object;" } : Jvm.MethodName) jdk_31_method_10_code (1 : Nat) (Option.some (Jvm.ClassFile.FieldType.object "java/lang/Object")))).before a0 Z = true := hw _ (List.mem_of_getElem? (i := 210) rfl)
theorem w211 {Z : State} {a0 : Array Value} (hw : ∀ d ∈ tables_1, d.before a0 Z = true) : ((Jvm.Cond.fieldLink "java/util/ImmutableCollections$List12" (13 : Nat) "java/util/ImmutableCollections$List12" "e0" "Ljava/lang/Object;")).before a0 Z = true := hw _ (List.mem_of_getElem? (i := 211) rfl)
theorem w212 {Z : State} {a0 : Array Value} (hw : ∀ d ∈ tables_1, d.before a0 Z = true) : ((Jvm.Cond.laysFinal "java/util/ImmutableCollections$List12" "java/util/ImmutableCollections$List12" "e0" "Ljava/lang/Object;")).before a0 Z = true := hw _ (List.mem_of_getElem? (i := 212) rfl)
theorem w213 {Z : State} {a0 : Array Value} (hw : ∀ d ∈ tables_1, d.before a0 Z = true) : ((Jvm.Cond.fieldLinkNest "java/util/ImmutableCollections$List12" (19 : Nat) "java/util/ImmutableCollections" "EMPTY" "Ljava/lang/Object;" "java/util/ImmutableCollections")).before a0 Z = true := hw _ (List.mem_of_getElem? (i := 213) rfl)
theorem w214 {Z : State} {a0 : Array Value} (hw : ∀ d ∈ tables_1, d.before a0 Z = true) : ((Jvm.Cond.fieldLink "java/util/ImmutableCollections$List12" (24 : Nat) "java/util/ImmutableCollections$List12" "e1" "Ljava/lang/Object;")).before a0 Z = true := hw _ (List.mem_of_getElem? (i := 214) rfl)
theorem w215 {Z : State} {a0 : Array Value} (hw : ∀ d ∈ tables_1, d.before a0 Z = true) : ((Jvm.Cond.laysFinal "java/util/ImmutableCollections$List12" "java/util/ImmutableCollections$List12" "e1" "Ljava/lang/Object;")).before a0 Z = true := hw _ (List.mem_of_getElem? (i := 215) rfl)
theorem w216 {Z : State} {a0 : Array Value} (hw : ∀ d ∈ tables_1, d.before a0 Z = true) : ((Jvm.Cond.fieldLink "com/example/sessn/sessn/log/LoggedSession" (26 : Nat) "com/example/sessn/sessn/log/LoggedSession" "id" "Ljava/lang/String;")).before a0 Z = true := hw _ (List.mem_of_getElem? (i := 216) rfl)
theorem w217 {Z : State} {a0 : Array Value} (hw : ∀ d ∈ tables_1, d.before a0 Z = true) : ((Jvm.Cond.laysFinal "com/example/sessn/sessn/log/LoggedSession" "com/example/sessn/sessn/log/LoggedSession" "id" "Ljava/lang/String;")).before a0 Z = true := hw _ (List.mem_of_getElem? (i := 217) rfl)
theorem w218 {Z : State} {a0 : Array Value} (hw : ∀ d ∈ tables_1, d.before a0 Z = true) : ((Jvm.Cond.fieldLink "com/example/sessn/sessn/log/LoggedSession" (32 : Nat) "com/example/sessn/sessn/log/LoggedSession" "queries" "Ljava/util/List;")).before a0 Z = true := hw _ (List.mem_of_getElem? (i := 218) rfl)
theorem w219 {Z : State} {a0 : Array Value} (hw : ∀ d ∈ tables_1, d.before a0 Z = true) : ((Jvm.Cond.laysFinal "com/example/sessn/sessn/log/LoggedSession" "com/example/sessn/sessn/log/LoggedSession" "queries" "Ljava/util/List;")).before a0 Z = true := hw _ (List.mem_of_getElem? (i := 219) rfl)
theorem w220 {Z : State} {a0 : Array Value} (hw : ∀ d ∈ tables_1, d.before a0 Z = true) : ((Jvm.Cond.methodLink "com/example/sessn/sessn/log/LoggedSessionCurrentPinLaw" (28 : Nat) ({ cls := "com/example/sessn/sessn/log/LoggedSession", name := "current", desc := "()Lcom/example/sessn/sessn/log/LoggedQuery;" } : Jvm.MethodName))).before a0 Z = true := hw _ (List.mem_of_getElem? (i := 220) rfl)
theorem w221 {Z : State} {a0 : Array Value} (hw : ∀ d ∈ tables_1, d.before a0 Z = true) : ((Jvm.Cond.declares ({ cls := "com/example/sessn/sessn/log/LoggedSession", name := "current", desc := "()Lcom/example/sessn/sessn/log/LoggedQuery;" } : Jvm.MethodName))).before a0 Z = true := hw _ (List.mem_of_getElem? (i := 221) rfl)
theorem w222 {Z : State} {a0 : Array Value} (hw : ∀ d ∈ tables_1, d.before a0 Z = true) : ((Jvm.Cond.instanceMethod ({ cls := "com/example/sessn/sessn/log/LoggedSession", name := "current", desc := "()Lcom/example/sessn/sessn/log/LoggedQuery;" } : Jvm.MethodName))).before a0 Z = true := hw _ (List.mem_of_getElem? (i := 222) rfl)
theorem w223 {Z : State} {a0 : Array Value} (hw : ∀ d ∈ tables_1, d.before a0 Z = true) : ((Jvm.Cond.selects "com/example/sessn/sessn/log/LoggedSession" ({ cls := "com/example/sessn/sessn/log/LoggedSession", name := "current", desc := "()Lcom/example/sessn/sessn/log/LoggedQuery;" } : Jvm.MethodName) ({ cls := "com/example/sessn/sessn/log/LoggedSession", name := "current", desc := "()Lcom/example/sessn/sessn/log/LoggedQuery;" } : Jvm.MethodName))).before a0 Z = true := hw _ (List.mem_of_getElem? (i := 223) rfl)
theorem w224 {Z : State} {a0 : Array Value} (hw : ∀ d ∈ tables_1, d.before a0 Z = true) : ((Jvm.Cond.code ({ cls := "com/example/sessn/sessn/log/LoggedSession", name := "current", desc := "()Lcom/example/sessn/sessn/log/LoggedQuery;" } : Jvm.MethodName) prog_20_method_3_code (1 : Nat) (Option.some (Jvm.ClassFile.FieldType.object "com/example/sessn/sessn/log/LoggedQuery")))).before a0 Z = true := hw _ (List.mem_of_getElem? (i := 224) rfl)
theorem w225 {Z : State} {a0 : Array Value} (hw : ∀ d ∈ tables_1, d.before a0 Z = true) : ((Jvm.Cond.methodLink "com/example/sessn/sessn/log/LoggedSession" (36 : Nat) ({ cls := "java/util/List", name := "size", desc := "()I" } : Jvm.MethodName))).before a0 Z = true := hw _ (List.mem_of_getElem? (i := 225) rfl)
theorem w226 {Z : State} {a0 : Array Value} (hw : ∀ d ∈ tables_1, d.before a0 Z = true) : ((Jvm.Cond.declares ({ cls := "java/util/List", name := "size", desc := "()I" } : Jvm.MethodName))).before a0 Z = true := hw _ (List.mem_of_getElem? (i := 226) rfl)
theorem w227 {Z : State} {a0 : Array Value} (hw : ∀ d ∈ tables_1, d.before a0 Z = true) : ((Jvm.Cond.interfaceMethod "java/util/List" "java/util/List" "size" "()I")).before a0 Z = true := hw _ (List.mem_of_getElem? (i := 227) rfl)
theorem w228 {Z : State} {a0 : Array Value} (hw : ∀ d ∈ tables_1, d.before a0 Z = true) : ((Jvm.Cond.selects "java/util/ImmutableCollections$List12" ({ cls := "java/util/List", name := "size", desc := "()I" } : Jvm.MethodName) ({ cls := "java/util/ImmutableCollections$List12", name := "size", desc := "()I" } : Jvm.MethodName))).before a0 Z = true := hw _ (List.mem_of_getElem? (i := 228) rfl)
theorem w229 {Z : State} {a0 : Array Value} (hw : ∀ d ∈ tables_1, d.before a0 Z = true) : ((Jvm.Cond.instanceMethod ({ cls := "java/util/ImmutableCollections$List12", name := "size", desc := "()I" } : Jvm.MethodName))).before a0 Z = true := hw _ (List.mem_of_getElem? (i := 229) rfl)
theorem w230 {Z : State} {a0 : Array Value} (hw : ∀ d ∈ tables_1, d.before a0 Z = true) : ((Jvm.Cond.publicMethod ({ cls := "java/util/ImmutableCollections$List12", name := "size", desc := "()I" } : Jvm.MethodName))).before a0 Z = true := hw _ (List.mem_of_getElem? (i := 230) rfl)
theorem w231 {Z : State} {a0 : Array Value} (hw : ∀ d ∈ tables_1, d.before a0 Z = true) : ((Jvm.Cond.unhidden "java/util/ImmutableCollections$List12" "size" "()I")).before a0 Z = true := hw _ (List.mem_of_getElem? (i := 231) rfl)
theorem w232 {Z : State} {a0 : Array Value} (hw : ∀ d ∈ tables_1, d.before a0 Z = true) : ((Jvm.Cond.castable "java/util/ImmutableCollections$List12" "java/util/List")).before a0 Z = true := hw _ (List.mem_of_getElem? (i := 232) rfl)
theorem w233 {Z : State} {a0 : Array Value} (hw : ∀ d ∈ tables_1, d.before a0 Z = true) : ((Jvm.Cond.code ({ cls := "java/util/ImmutableCollections$List12", name := "size", desc := "()I" } : Jvm.MethodName) jdk_44_method_3_code (1 : Nat) (Option.some Jvm.ClassFile.FieldType.int))).before a0 Z = true := hw _ (List.mem_of_getElem? (i := 233) rfl)
theorem w234 {Z : State} {a0 : Array Value} (hw : ∀ d ∈ tables_1, d.before a0 Z = true) : ((Jvm.Cond.methodLink "com/example/sessn/sessn/log/LoggedSession" (44 : Nat) ({ cls := "java/util/List", name := "get", desc := "(I)Ljava/lang/Object;" } : Jvm.MethodName))).before a0 Z = true := hw _ (List.mem_of_getElem? (i := 234) rfl)
theorem w235 {Z : State} {a0 : Array Value} (hw : ∀ d ∈ tables_1, d.before a0 Z = true) : ((Jvm.Cond.declares ({ cls := "java/util/List", name := "get", desc := "(I)Ljava/lang/Object;" } : Jvm.MethodName))).before a0 Z = true := hw _ (List.mem_of_getElem? (i := 235) rfl)
theorem w236 {Z : State} {a0 : Array Value} (hw : ∀ d ∈ tables_1, d.before a0 Z = true) : ((Jvm.Cond.interfaceMethod "java/util/List" "java/util/List" "get" "(I)Ljava/lang/Object;")).before a0 Z = true := hw _ (List.mem_of_getElem? (i := 236) rfl)
theorem w237 {Z : State} {a0 : Array Value} (hw : ∀ d ∈ tables_1, d.before a0 Z = true) : ((Jvm.Cond.selects "java/util/ImmutableCollections$List12" ({ cls := "java/util/List", name := "get", desc := "(I)Ljava/lang/Object;" } : Jvm.MethodName) ({ cls := "java/util/ImmutableCollections$List12", name := "get", desc := "(I)Ljava/lang/Object;" } : Jvm.MethodName))).before a0 Z = true := hw _ (List.mem_of_getElem? (i := 237) rfl)
theorem w238 {Z : State} {a0 : Array Value} (hw : ∀ d ∈ tables_1, d.before a0 Z = true) : ((Jvm.Cond.instanceMethod ({ cls := "java/util/ImmutableCollections$List12", name := "get", desc := "(I)Ljava/lang/Object;" } : Jvm.MethodName))).before a0 Z = true := hw _ (List.mem_of_getElem? (i := 238) rfl)
theorem w239 {Z : State} {a0 : Array Value} (hw : ∀ d ∈ tables_1, d.before a0 Z = true) : ((Jvm.Cond.publicMethod ({ cls := "java/util/ImmutableCollections$List12", name := "get", desc := "(I)Ljava/lang/Object;" } : Jvm.MethodName))).before a0 Z = true := hw _ (List.mem_of_getElem? (i := 239) rfl)
theorem w240 {Z : State} {a0 : Array Value} (hw : ∀ d ∈ tables_1, d.before a0 Z = true) : ((Jvm.Cond.unhidden "java/util/ImmutableCollections$List12" "get" "(I)Ljava/lang/Object;")).before a0 Z = true := hw _ (List.mem_of_getElem? (i := 240) rfl)
theorem w241 {Z : State} {a0 : Array Value} (hw : ∀ d ∈ tables_1, d.before a0 Z = true) : ((Jvm.Cond.code ({ cls := "java/util/ImmutableCollections$List12", name := "get", desc := "(I)Ljava/lang/Object;" } : Jvm.MethodName) jdk_44_method_5_code (2 : Nat) (Option.some (Jvm.ClassFile.FieldType.object "java/lang/Object")))).before a0 Z = true := hw _ (List.mem_of_getElem? (i := 241) rfl)
theorem w242 {Z : State} {a0 : Array Value} (hw : ∀ d ∈ tables_1, d.before a0 Z = true) : ((Jvm.Cond.classLink "com/example/sessn/sessn/log/LoggedSession" (48 : Nat) "com/example/sessn/sessn/log/LoggedQuery")).before a0 Z = true := hw _ (List.mem_of_getElem? (i := 242) rfl)
theorem w244 {Z : State} {a0 : Array Value} (hw : ∀ d ∈ tables_1, d.before a0 Z = true) : ((Jvm.Cond.methodLink "java/util/List" (100 : Nat) ({ cls := "java/util/ImmutableCollections$List12", name := "<init>", desc := "(Ljava/lang/Object;Ljava/lang/Object;)V" } : Jvm.MethodName))).before a0 Z = true := hw _ (List.mem_of_getElem? (i := 244) rfl)
theorem w245 {Z : State} {a0 : Array Value} (hw : ∀ d ∈ tables_1, d.before a0 Z = true) : ((Jvm.Cond.instanceMethod ({ cls := "java/util/ImmutableCollections$List12", name := "<init>", desc := "(Ljava/lang/Object;Ljava/lang/Object;)V" } : Jvm.MethodName))).before a0 Z = true := hw _ (List.mem_of_getElem? (i := 245) rfl)
theorem w246 {Z : State} {a0 : Array Value} (hw : ∀ d ∈ tables_1, d.before a0 Z = true) : ((Jvm.Cond.code ({ cls := "java/util/ImmutableCollections$List12", name := "<init>", desc := "(Ljava/lang/Object;Ljava/lang/Object;)V" } : Jvm.MethodName) jdk_44_method_2_code (3 : Nat) (Option.none : Option Jvm.ClassFile.FieldType))).before a0 Z = true := hw _ (List.mem_of_getElem? (i := 246) rfl)
theorem w247 {Z : State} {a0 : Array Value} (hw : ∀ d ∈ tables_1, d.before a0 Z = true) : ((Jvm.Cond.methodLink "java/util/List" (109 : Nat) ({ cls := "java/util/ImmutableCollections", name := "listFromArray", desc := "([Ljava/lang/Object;)Ljava/util/List;" } : Jvm.MethodName))).before a0 Z = true := hw _ (List.mem_of_getElem? (i := 247) rfl)
theorem w248 {Z : State} {a0 : Array Value} (hw : ∀ d ∈ tables_1, d.before a0 Z = true) : ((Jvm.Cond.static ({ cls := "java/util/ImmutableCollections", name := "listFromArray", desc := "([Ljava/lang/Object;)Ljava/util/List;" } : Jvm.MethodName))).before a0 Z = true := hw _ (List.mem_of_getElem? (i := 248) rfl)
theorem w249 {Z : State} {a0 : Array Value} (hw : ∀ d ∈ tables_1, d.before a0 Z = true) : ((Jvm.Cond.code ({ cls := "java/util/ImmutableCollections", name := "listFromArray", desc := "([Ljava/lang/Object;)Ljava/util/List;" } : Jvm.MethodName) jdk_56_method_4_code (3 : Nat) (Option.some (Jvm.ClassFile.FieldType.object "java/util/List")))).before a0 Z = true := hw _ (List.mem_of_getElem? (i := 249) rfl)
theorem w250 {Z : State} {a0 : Array Value} (hw : ∀ d ∈ tables_1, d.before a0 Z = true) : ((Jvm.Cond.classLink "java/util/ImmutableCollections" (2 : Nat) "java/lang/Object")).before a0 Z = true := hw _ (List.mem_of_getElem? (i := 250) rfl)
theorem w251 {Z : State} {a0 : Array Value} (hw : ∀ d ∈ tables_1, d.before a0 Z = true) : ((Jvm.Cond.methodLink "java/util/ImmutableCollections" (37 : Nat) ({ cls := "java/util/Objects", name := "requireNonNull", desc := "(Ljava/lang/Object;)Ljava/lang/Object;" } : Jvm.MethodName))).before a0 Z = true := hw _ (List.mem_of_getElem? (i := 251) rfl)
theorem w252 {Z : State} {a0 : Array Value} (hw : ∀ d ∈ tables_1, d.before a0 Z = true) : ((Jvm.Cond.instantiable "java/util/ImmutableCollections$ListN" (2 : Nat))).before a0 Z = true := hw _ (List.mem_of_getElem? (i := 252) rfl)
theorem w253 {Z : State} {a0 : Array Value} (hw : ∀ d ∈ tables_1, d.before a0 Z = true) : ((Jvm.Cond.initialized "java/util/ImmutableCollections$ListN")).before a0 Z = true := hw _ (List.mem_of_getElem? (i := 253) rfl)
theorem w254 {Z : State} {a0 : Array Value} (hw : ∀ d ∈ tables_1, d.before a0 Z = true) : ((Jvm.Cond.methodLinkNest "java/util/ImmutableCollections" (43 : Nat) ({ cls := "java/util/ImmutableCollections$ListN", name := "<init>", desc := "([Ljava/lang/Object;Z)V" } : Jvm.MethodName) "java/util/ImmutableCollections")).before a0 Z = true := hw _ (List.mem_of_getElem? (i := 254) rfl)
theorem w255 {Z : State} {a0 : Array Value} (hw : ∀ d ∈ tables_1, d.before a0 Z = true) : ((Jvm.Cond.instanceMethod ({ cls := "java/util/ImmutableCollections$ListN", name := "<init>", desc := "([Ljava/lang/Object;Z)V" } : Jvm.MethodName))).before a0 Z = true := hw _ (List.mem_of_getElem? (i := 255) rfl)
theorem w257 {Z : State} {a0 : Array Value} (hw : ∀ d ∈ tables_1, d.before a0 Z = true) : ((Jvm.Cond.code ({ cls := "java/util/ImmutableCollections$ListN", name := "<init>", desc := "([Ljava/lang/Object;Z)V" } : Jvm.MethodName) jdk_45_method_1_code (3 : Nat) (Option.none : Option Jvm.ClassFile.FieldType))).before a0 Z = true := hw _ (List.mem_of_getElem? (i := 257) rfl)
theorem w258 {Z : State} {a0 : Array Value} (hw : ∀ d ∈ tables_1, d.before a0 Z = true) : ((Jvm.Cond.methodLink "java/util/ImmutableCollections$ListN" (1 : Nat) ({ cls := "java/util/ImmutableCollections$AbstractImmutableList", name := "<init>", desc := "()V" } : Jvm.MethodName))).before a0 Z = true := hw _ (List.mem_of_getElem? (i := 258) rfl)
theorem w262 {Z : State} {a0 : Array Value} (hw : ∀ d ∈ tables_1, d.before a0 Z = true) : ((Jvm.Cond.fieldLink "java/util/ImmutableCollections$ListN" (7 : Nat) "java/util/ImmutableCollections$ListN" "elements" "[Ljava/lang/Object;")).before a0 Z = true := hw _ (List.mem_of_getElem? (i := 262) rfl)
theorem w263 {Z : State} {a0 : Array Value} (hw : ∀ d ∈ tables_1, d.before a0 Z = true) : ((Jvm.Cond.laysFinal "java/util/ImmutableCollections$ListN" "java/util/ImmutableCollections$ListN" "elements" "[Ljava/lang/Object;")).before a0 Z = true := hw _ (List.mem_of_getElem? (i := 263) rfl)
theorem w264 {Z : State} {a0 : Array Value} (hw : ∀ d ∈ tables_1, d.before a0 Z = true) : ((Jvm.Cond.fieldLink "java/util/ImmutableCollections$ListN" (13 : Nat) "java/util/ImmutableCollections$ListN" "allowNulls" "Z")).before a0 Z = true := hw _ (List.mem_of_getElem? (i := 264) rfl)
theorem w265 {Z : State} {a0 : Array Value} (hw : ∀ d ∈ tables_1, d.before a0 Z = true) : ((Jvm.Cond.laysFinal "java/util/ImmutableCollections$ListN" "java/util/ImmutableCollections$ListN" "allowNulls" "Z")).before a0 Z = true := hw _ (List.mem_of_getElem? (i := 265) rfl)
theorem w266 {Z : State} {a0 : Array Value} (hw : ∀ d ∈ tables_1, d.before a0 Z = true) : ((Jvm.Cond.selects "java/util/ImmutableCollections$ListN" ({ cls := "java/util/List", name := "size", desc := "()I" } : Jvm.MethodName) ({ cls := "java/util/ImmutableCollections$ListN", name := "size", desc := "()I" } : Jvm.MethodName))).before a0 Z = true := hw _ (List.mem_of_getElem? (i := 266) rfl)
theorem w267 {Z : State} {a0 : Array Value} (hw : ∀ d ∈ tables_1, d.before a0 Z = true) : ((Jvm.Cond.instanceMethod ({ cls := "java/util/ImmutableCollections$ListN", name := "size", desc := "()I" } : Jvm.MethodName))).before a0 Z = true := hw _ (List.mem_of_getElem? (i := 267) rfl)
theorem w268 {Z : State} {a0 : Array Value} (hw : ∀ d ∈ tables_1, d.before a0 Z = true) : ((Jvm.Cond.publicMethod ({ cls := "java/util/ImmutableCollections$ListN", name := "size", desc := "()I" } : Jvm.MethodName))).before a0 Z = true := hw _ (List.mem_of_getElem? (i := 268) rfl)
theorem w269 {Z : State} {a0 : Array Value} (hw : ∀ d ∈ tables_1, d.before a0 Z = true) : ((Jvm.Cond.unhidden "java/util/ImmutableCollections$ListN" "size" "()I")).before a0 Z = true := hw _ (List.mem_of_getElem? (i := 269) rfl)
theorem w270 {Z : State} {a0 : Array Value} (hw : ∀ d ∈ tables_1, d.before a0 Z = true) : ((Jvm.Cond.castable "java/util/ImmutableCollections$ListN" "java/util/List")).before a0 Z = true := hw _ (List.mem_of_getElem? (i := 270) rfl)
theorem w271 {Z : State} {a0 : Array Value} (hw : ∀ d ∈ tables_1, d.before a0 Z = true) : ((Jvm.Cond.code ({ cls := "java/util/ImmutableCollections$ListN", name := "size", desc := "()I" } : Jvm.MethodName) jdk_45_method_3_code (1 : Nat) (Option.some Jvm.ClassFile.FieldType.int))).before a0 Z = true := hw _ (List.mem_of_getElem? (i := 271) rfl)
theorem w272 {Z : State} {a0 : Array Value} (hw : ∀ d ∈ tables_1, d.before a0 Z = true) : ((Jvm.Cond.selects "java/util/ImmutableCollections$ListN" ({ cls := "java/util/List", name := "get", desc := "(I)Ljava/lang/Object;" } : Jvm.MethodName) ({ cls := "java/util/ImmutableCollections$ListN", name := "get", desc := "(I)Ljava/lang/Object;" } : Jvm.MethodName))).before a0 Z = true := hw _ (List.mem_of_getElem? (i := 272) rfl)
theorem w273 {Z : State} {a0 : Array Value} (hw : ∀ d ∈ tables_1, d.before a0 Z = true) : ((Jvm.Cond.instanceMethod ({ cls := "java/util/ImmutableCollections$ListN", name := "get", desc := "(I)Ljava/lang/Object;" } : Jvm.MethodName))).before a0 Z = true := hw _ (List.mem_of_getElem? (i := 273) rfl)
theorem w274 {Z : State} {a0 : Array Value} (hw : ∀ d ∈ tables_1, d.before a0 Z = true) : ((Jvm.Cond.publicMethod ({ cls := "java/util/ImmutableCollections$ListN", name := "get", desc := "(I)Ljava/lang/Object;" } : Jvm.MethodName))).before a0 Z = true := hw _ (List.mem_of_getElem? (i := 274) rfl)
theorem w275 {Z : State} {a0 : Array Value} (hw : ∀ d ∈ tables_1, d.before a0 Z = true) : ((Jvm.Cond.unhidden "java/util/ImmutableCollections$ListN" "get" "(I)Ljava/lang/Object;")).before a0 Z = true := hw _ (List.mem_of_getElem? (i := 275) rfl)
theorem w276 {Z : State} {a0 : Array Value} (hw : ∀ d ∈ tables_1, d.before a0 Z = true) : ((Jvm.Cond.code ({ cls := "java/util/ImmutableCollections$ListN", name := "get", desc := "(I)Ljava/lang/Object;" } : Jvm.MethodName) jdk_45_method_4_code (2 : Nat) (Option.some (Jvm.ClassFile.FieldType.object "java/lang/Object")))).before a0 Z = true := hw _ (List.mem_of_getElem? (i := 276) rfl)
theorem d1_0 : decode method_3_code 0 = .ok (.iconst 2, 1) := by decide +kernel
theorem d1_1 : decode method_3_code 1 = .ok (.newarray .char, 2) := by decide +kernel
theorem d1_3 : decode method_3_code 3 = .ok (.astore_n 1, 1) := by decide +kernel
theorem d1_4 : decode method_3_code 4 = .ok (.aload_n 1, 1) := by decide +kernel
theorem d1_5 : decode method_3_code 5 = .ok (.iconst 0, 1) := by decide +kernel
theorem d1_6 : decode method_3_code 6 = .ok (.iload_n 0, 1) := by decide +kernel
theorem d1_7 : decode method_3_code 7 = .ok (.sipush 255, 3) := by decide +kernel
theorem d1_10 : decode method_3_code 10 = .ok (.iand, 1) := by decide +kernel
theorem d1_11 : decode method_3_code 11 = .ok (.i2c, 1) := by decide +kernel
theorem d1_12 : decode method_3_code 12 = .ok (.castore, 1) := by decide +kernel
theorem d1_13 : decode method_3_code 13 = .ok (.aload_n 1, 1) := by decide +kernel
theorem d1_14 : decode method_3_code 14 = .ok (.iconst 1, 1) := by decide +kernel
theorem d1_15 : decode method_3_code 15 = .ok (.iload_n 0, 1) := by decide +kernel
theorem d1_16 : decode method_3_code 16 = .ok (.bipush 8, 2) := by decide +kernel
theorem d1_18 : decode method_3_code 18 = .ok (.iushr, 1) := by decide +kernel
theorem d1_19 : decode method_3_code 19 = .ok (.sipush 255, 3) := by decide +kernel
theorem d1_22 : decode method_3_code 22 = .ok (.iand, 1) := by decide +kernel
theorem d1_23 : decode method_3_code 23 = .ok (.i2c, 1) := by decide +kernel
theorem d1_24 : decode method_3_code 24 = .ok (.castore, 1) := by decide +kernel
theorem d1_25 : decode method_3_code 25 = .ok (.new 32, 3) := by decide +kernel
theorem d1_28 : decode method_3_code 28 = .ok (.dup, 1) := by decide +kernel
theorem d1_29 : decode method_3_code 29 = .ok (.new 34, 3) := by decide +kernel
theorem d1_32 : decode method_3_code 32 = .ok (.dup, 1) := by decide +kernel
theorem d1_33 : decode method_3_code 33 = .ok (.aload_n 1, 1) := by decide +kernel
theorem d1_34 : decode method_3_code 34 = .ok (.invokespecial 36, 3) := by decide +kernel
theorem d1_37 : decode method_3_code 37 = .ok (.aconst_null, 1) := by decide +kernel
theorem d1_38 : decode method_3_code 38 = .ok (.new 14, 3) := by decide +kernel
theorem d1_41 : decode method_3_code 41 = .ok (.dup, 1) := by decide +kernel
theorem d1_42 : decode method_3_code 42 = .ok (.invokespecial 16, 3) := by decide +kernel
theorem d1_45 : decode method_3_code 45 = .ok (.new 14, 3) := by decide +kernel
theorem d1_48 : decode method_3_code 48 = .ok (.dup, 1) := by decide +kernel
theorem d1_49 : decode method_3_code 49 = .ok (.invokespecial 16, 3) := by decide +kernel
theorem d1_52 : decode method_3_code 52 = .ok (.invokespecial 39, 3) := by decide +kernel
theorem d1_55 : decode method_3_code 55 = .ok (.areturn, 1) := by decide +kernel
theorem d8_0 : decode jdk_38_method_2_code 0 = .ok (.aload_n 0, 1) := by decide +kernel
theorem d8_1 : decode jdk_38_method_2_code 1 = .ok (.invokespecial 1, 3) := by decide +kernel
theorem d8_4 : decode jdk_38_method_2_code 4 = .ok (.aload_n 0, 1) := by decide +kernel
theorem d8_5 : decode jdk_38_method_2_code 5 = .ok (.getstatic 39, 3) := by decide +kernel
theorem d8_8 : decode jdk_38_method_2_code 8 = .ok (.putfield 9, 3) := by decide +kernel
theorem d8_11 : decode jdk_38_method_2_code 11 = .ok (.return_, 1) := by decide +kernel
theorem d9_0 : decode jdk_39_method_1_code 0 = .ok (.aload_n 0, 1) := by decide +kernel
theorem d9_1 : decode jdk_39_method_1_code 1 = .ok (.invokespecial 1, 3) := by decide +kernel
theorem d9_4 : decode jdk_39_method_1_code 4 = .ok (.aload_n 0, 1) := by decide +kernel
theorem d9_5 : decode jdk_39_method_1_code 5 = .ok (.iconst 0, 1) := by decide +kernel
theorem d9_6 : decode jdk_39_method_1_code 6 = .ok (.putfield 7, 3) := by decide +kernel
theorem d9_9 : decode jdk_39_method_1_code 9 = .ok (.return_, 1) := by decide +kernel
theorem d10_0 : decode jdk_22_method_1_code 0 = .ok (.aload_n 0, 1) := by decide +kernel
theorem d10_1 : decode jdk_22_method_1_code 1 = .ok (.invokespecial 1, 3) := by decide +kernel
theorem d10_4 : decode jdk_22_method_1_code 4 = .ok (.return_, 1) := by decide +kernel
theorem d11_0 : decode prog_19_method_1_code 0 = .ok (.aload_n 0, 1) := by decide +kernel
theorem d11_1 : decode prog_19_method_1_code 1 = .ok (.invokespecial 1, 3) := by decide +kernel
theorem d11_4 : decode prog_19_method_1_code 4 = .ok (.aload_n 3, 1) := by decide +kernel
theorem d11_5 : decode prog_19_method_1_code 5 = .ok (.invokestatic 7, 3) := by decide +kernel
theorem d11_8 : decode prog_19_method_1_code 8 = .ok (.astore_n 3, 1) := by decide +kernel
theorem d11_9 : decode prog_19_method_1_code 9 = .ok (.aload 4, 2) := by decide +kernel
theorem d11_11 : decode prog_19_method_1_code 11 = .ok (.invokestatic 7, 3) := by decide +kernel
theorem d11_14 : decode prog_19_method_1_code 14 = .ok (.astore 4, 2) := by decide +kernel
theorem d11_16 : decode prog_19_method_1_code 16 = .ok (.aload_n 0, 1) := by decide +kernel
theorem d11_17 : decode prog_19_method_1_code 17 = .ok (.aload_n 1, 1) := by decide +kernel
theorem d11_18 : decode prog_19_method_1_code 18 = .ok (.putfield 13, 3) := by decide +kernel
theorem d11_21 : decode prog_19_method_1_code 21 = .ok (.aload_n 0, 1) := by decide +kernel
theorem d11_22 : decode prog_19_method_1_code 22 = .ok (.aload_n 2, 1) := by decide +kernel
theorem d11_23 : decode prog_19_method_1_code 23 = .ok (.putfield 19, 3) := by decide +kernel
theorem d11_26 : decode prog_19_method_1_code 26 = .ok (.aload_n 0, 1) := by decide +kernel
theorem d11_27 : decode prog_19_method_1_code 27 = .ok (.aload_n 3, 1) := by decide +kernel
theorem d11_28 : decode prog_19_method_1_code 28 = .ok (.putfield 23, 3) := by decide +kernel
theorem d11_31 : decode prog_19_method_1_code 31 = .ok (.aload_n 0, 1) := by decide +kernel
theorem d11_32 : decode prog_19_method_1_code 32 = .ok (.aload 4, 2) := by decide +kernel
theorem d11_34 : decode prog_19_method_1_code 34 = .ok (.putfield 27, 3) := by decide +kernel
theorem d11_37 : decode prog_19_method_1_code 37 = .ok (.return_, 1) := by decide +kernel
theorem d12_0 : decode jdk_30_method_1_code 0 = .ok (.aload_n 0, 1) := by decide +kernel
theorem d12_1 : decode jdk_30_method_1_code 1 = .ok (.invokespecial 1, 3) := by decide +kernel
theorem d12_4 : decode jdk_30_method_1_code 4 = .ok (.return_, 1) := by decide +kernel
theorem d13_0 : decode jdk_40_method_48_code 0 = .ok (.aload_n 0, 1) := by decide +kernel
theorem d13_1 : decode jdk_40_method_48_code 1 = .ok (.invokestatic 112, 3) := by decide +kernel
theorem d13_4 : decode jdk_40_method_48_code 4 = .ok (.areturn, 1) := by decide +kernel
theorem d14_0 : decode jdk_56_method_3_code 0 = .ok (.aload_n 0, 1) := by decide +kernel
theorem d14_1 : decode jdk_56_method_3_code 1 = .ok (.instanceof 10, 3) := by decide +kernel
theorem d14_4 : decode jdk_56_method_3_code 4 = .ok (.ifCond .ne 22, 3) := by decide +kernel
theorem d14_7 : decode jdk_56_method_3_code 7 = .ok (.aload_n 0, 1) := by decide +kernel
theorem d14_8 : decode jdk_56_method_3_code 8 = .ok (.instanceof 12, 3) := by decide +kernel
theorem d14_11 : decode jdk_56_method_3_code 11 = .ok (.ifCond .eq 20, 3) := by decide +kernel
theorem d14_31 : decode jdk_56_method_3_code 31 = .ok (.aload_n 0, 1) := by decide +kernel
theorem d14_32 : decode jdk_56_method_3_code 32 = .ok (.invokeinterface 20 1, 5) := by decide +kernel
theorem d14_37 : decode jdk_56_method_3_code 37 = .ok (.ifCond .eq 7, 3) := by decide +kernel
theorem d14_40 : decode jdk_56_method_3_code 40 = .ok (.invokestatic 26, 3) := by decide +kernel
theorem d14_43 : decode jdk_56_method_3_code 43 = .ok (.areturn, 1) := by decide +kernel
theorem d14_44 : decode jdk_56_method_3_code 44 = .ok (.aload_n 0, 1) := by decide +kernel
theorem d14_45 : decode jdk_56_method_3_code 45 = .ok (.invokeinterface 30 1, 5) := by decide +kernel
theorem d14_50 : decode jdk_56_method_3_code 50 = .ok (.invokestatic 34, 3) := by decide +kernel
theorem d14_53 : decode jdk_56_method_3_code 53 = .ok (.areturn, 1) := by decide +kernel
theorem d15_0 : decode jdk_38_method_9_code 0 = .ok (.aload_n 0, 1) := by decide +kernel
theorem d15_1 : decode jdk_38_method_9_code 1 = .ok (.getfield 48, 3) := by decide +kernel
theorem d15_4 : decode jdk_38_method_9_code 4 = .ok (.ifCond .ne 7, 3) := by decide +kernel
theorem d15_7 : decode jdk_38_method_9_code 7 = .ok (.iconst 1, 1) := by decide +kernel
theorem d15_8 : decode jdk_38_method_9_code 8 = .ok (.goto 4, 3) := by decide +kernel
theorem d15_11 : decode jdk_38_method_9_code 11 = .ok (.iconst 0, 1) := by decide +kernel
theorem d15_12 : decode jdk_38_method_9_code 12 = .ok (.ireturn, 1) := by decide +kernel
theorem d16_0 : decode jdk_40_method_36_code 0 = .ok (.getstatic 90, 3) := by decide +kernel
theorem d16_3 : decode jdk_40_method_36_code 3 = .ok (.areturn, 1) := by decide +kernel
theorem d17_0 : decode jdk_38_method_25_code 0 = .ok (.aload_n 0, 1) := by decide +kernel
theorem d17_1 : decode jdk_38_method_25_code 1 = .ok (.dup, 1) := by decide +kernel
theorem d17_2 : decode jdk_38_method_25_code 2 = .ok (.getfield 63, 3) := by decide +kernel
theorem d17_5 : decode jdk_38_method_25_code 5 = .ok (.iconst 1, 1) := by decide +kernel
theorem d17_6 : decode jdk_38_method_25_code 6 = .ok (.iadd, 1) := by decide +kernel
theorem d17_7 : decode jdk_38_method_25_code 7 = .ok (.putfield 63, 3) := by decide +kernel
theorem d17_10 : decode jdk_38_method_25_code 10 = .ok (.aload_n 0, 1) := by decide +kernel
theorem d17_11 : decode jdk_38_method_25_code 11 = .ok (.aload_n 1, 1) := by decide +kernel
theorem d17_12 : decode jdk_38_method_25_code 12 = .ok (.aload_n 0, 1) := by decide +kernel
theorem d17_13 : decode jdk_38_method_25_code 13 = .ok (.getfield 9, 3) := by decide +kernel
theorem d17_16 : decode jdk_38_method_25_code 16 = .ok (.aload_n 0, 1) := by decide +kernel
theorem d17_17 : decode jdk_38_method_25_code 17 = .ok (.getfield 48, 3) := by decide +kernel
theorem d17_20 : decode jdk_38_method_25_code 20 = .ok (.invokevirtual 131, 3) := by decide +kernel
theorem d17_23 : decode jdk_38_method_25_code 23 = .ok (.iconst 1, 1) := by decide +kernel
theorem d17_24 : decode jdk_38_method_25_code 24 = .ok (.ireturn, 1) := by decide +kernel
theorem d18_0 : decode jdk_38_method_24_code 0 = .ok (.iload_n 3, 1) := by decide +kernel
theorem d18_1 : decode jdk_38_method_24_code 1 = .ok (.aload_n 2, 1) := by decide +kernel
theorem d18_2 : decode jdk_38_method_24_code 2 = .ok (.arraylength, 1) := by decide +kernel
theorem d18_3 : decode jdk_38_method_24_code 3 = .ok (.if_icmp .ne 8, 3) := by decide +kernel
theorem d18_6 : decode jdk_38_method_24_code 6 = .ok (.aload_n 0, 1) := by decide +kernel
theorem d18_7 : decode jdk_38_method_24_code 7 = .ok (.invokevirtual 129, 3) := by decide +kernel
theorem d18_10 : decode jdk_38_method_24_code 10 = .ok (.astore_n 2, 1) := by decide +kernel
theorem d18_11 : decode jdk_38_method_24_code 11 = .ok (.aload_n 2, 1) := by decide +kernel
theorem d18_12 : decode jdk_38_method_24_code 12 = .ok (.iload_n 3, 1) := by decide +kernel
theorem d18_13 : decode jdk_38_method_24_code 13 = .ok (.aload_n 1, 1) := by decide +kernel
theorem d18_14 : decode jdk_38_method_24_code 14 = .ok (.aastore, 1) := by decide +kernel
theorem d18_15 : decode jdk_38_method_24_code 15 = .ok (.aload_n 0, 1) := by decide +kernel
theorem d18_16 : decode jdk_38_method_24_code 16 = .ok (.iload_n 3, 1) := by decide +kernel
theorem d18_17 : decode jdk_38_method_24_code 17 = .ok (.iconst 1, 1) := by decide +kernel
theorem d18_18 : decode jdk_38_method_24_code 18 = .ok (.iadd, 1) := by decide +kernel
theorem d18_19 : decode jdk_38_method_24_code 19 = .ok (.putfield 48, 3) := by decide +kernel
theorem d18_22 : decode jdk_38_method_24_code 22 = .ok (.return_, 1) := by decide +kernel
theorem d19_0 : decode jdk_38_method_7_code 0 = .ok (.aload_n 0, 1) := by decide +kernel
theorem d19_1 : decode jdk_38_method_7_code 1 = .ok (.aload_n 0, 1) := by decide +kernel
theorem d19_2 : decode jdk_38_method_7_code 2 = .ok (.getfield 48, 3) := by decide +kernel
theorem d19_5 : decode jdk_38_method_7_code 5 = .ok (.iconst 1, 1) := by decide +kernel
theorem d19_6 : decode jdk_38_method_7_code 6 = .ok (.iadd, 1) := by decide +kernel
theorem d19_7 : decode jdk_38_method_7_code 7 = .ok (.invokevirtual 69, 3) := by decide +kernel
theorem d19_10 : decode jdk_38_method_7_code 10 = .ok (.areturn, 1) := by decide +kernel
theorem d20_0 : decode jdk_38_method_6_code 0 = .ok (.aload_n 0, 1) := by decide +kernel
theorem d20_1 : decode jdk_38_method_6_code 1 = .ok (.getfield 9, 3) := by decide +kernel
theorem d20_4 : decode jdk_38_method_6_code 4 = .ok (.arraylength, 1) := by decide +kernel
theorem d20_5 : decode jdk_38_method_6_code 5 = .ok (.istore_n 2, 1) := by decide +kernel
theorem d20_6 : decode jdk_38_method_6_code 6 = .ok (.iload_n 2, 1) := by decide +kernel
theorem d20_7 : decode jdk_38_method_6_code 7 = .ok (.ifCond .gt 13, 3) := by decide +kernel
theorem d20_10 : decode jdk_38_method_6_code 10 = .ok (.aload_n 0, 1) := by decide +kernel
theorem d20_11 : decode jdk_38_method_6_code 11 = .ok (.getfield 9, 3) := by decide +kernel
theorem d20_14 : decode jdk_38_method_6_code 14 = .ok (.getstatic 39, 3) := by decide +kernel
theorem d20_17 : decode jdk_38_method_6_code 17 = .ok (.if_acmp .eq 28, 3) := by decide +kernel
theorem d20_45 : decode jdk_38_method_6_code 45 = .ok (.aload_n 0, 1) := by decide +kernel
theorem d20_46 : decode jdk_38_method_6_code 46 = .ok (.bipush 10, 2) := by decide +kernel
theorem d20_48 : decode jdk_38_method_6_code 48 = .ok (.iload_n 1, 1) := by decide +kernel
theorem d20_49 : decode jdk_38_method_6_code 49 = .ok (.invokestatic 79, 3) := by decide +kernel
theorem d20_52 : decode jdk_38_method_6_code 52 = .ok (.anewarray 7, 3) := by decide +kernel
theorem d20_55 : decode jdk_38_method_6_code 55 = .ok (.dup_x1, 1) := by decide +kernel
theorem d20_56 : decode jdk_38_method_6_code 56 = .ok (.putfield 9, 3) := by decide +kernel
theorem d20_59 : decode jdk_38_method_6_code 59 = .ok (.areturn, 1) := by decide +kernel
theorem d21_0 : decode jdk_29_method_65_code 0 = .ok (.iload_n 0, 1) := by decide +kernel
theorem d21_1 : decode jdk_29_method_65_code 1 = .ok (.iload_n 1, 1) := by decide +kernel
theorem d21_2 : decode jdk_29_method_65_code 2 = .ok (.if_icmp .lt 7, 3) := by decide +kernel
theorem d21_5 : decode jdk_29_method_65_code 5 = .ok (.iload_n 0, 1) := by decide +kernel
theorem d21_6 : decode jdk_29_method_65_code 6 = .ok (.goto 4, 3) := by decide +kernel
theorem d21_10 : decode jdk_29_method_65_code 10 = .ok (.ireturn, 1) := by decide +kernel
theorem d22_0 : decode prog_20_method_1_code 0 = .ok (.aload_n 0, 1) := by decide +kernel
theorem d22_1 : decode prog_20_method_1_code 1 = .ok (.invokespecial 1, 3) := by decide +kernel
theorem d22_4 : decode prog_20_method_1_code 4 = .ok (.aload_n 2, 1) := by decide +kernel
theorem d22_5 : decode prog_20_method_1_code 5 = .ok (.invokeinterface 7 1, 5) := by decide +kernel
theorem d22_10 : decode prog_20_method_1_code 10 = .ok (.ifCond .eq 17, 3) := by decide +kernel
theorem d22_27 : decode prog_20_method_1_code 27 = .ok (.aload_n 2, 1) := by decide +kernel
theorem d22_28 : decode prog_20_method_1_code 28 = .ok (.invokestatic 22, 3) := by decide +kernel
theorem d22_31 : decode prog_20_method_1_code 31 = .ok (.astore_n 2, 1) := by decide +kernel
theorem d22_32 : decode prog_20_method_1_code 32 = .ok (.aload_n 0, 1) := by decide +kernel
theorem d22_33 : decode prog_20_method_1_code 33 = .ok (.aload_n 1, 1) := by decide +kernel
theorem d22_34 : decode prog_20_method_1_code 34 = .ok (.putfield 26, 3) := by decide +kernel
theorem d22_37 : decode prog_20_method_1_code 37 = .ok (.aload_n 0, 1) := by decide +kernel
theorem d22_38 : decode prog_20_method_1_code 38 = .ok (.aload_n 2, 1) := by decide +kernel
theorem d22_39 : decode prog_20_method_1_code 39 = .ok (.putfield 32, 3) := by decide +kernel
theorem d22_42 : decode prog_20_method_1_code 42 = .ok (.return_, 1) := by decide +kernel
theorem d23_0 : decode jdk_38_method_16_code 0 = .ok (.aload_n 0, 1) := by decide +kernel
theorem d23_1 : decode jdk_38_method_16_code 1 = .ok (.getfield 9, 3) := by decide +kernel
theorem d23_4 : decode jdk_38_method_16_code 4 = .ok (.aload_n 0, 1) := by decide +kernel
theorem d23_5 : decode jdk_38_method_16_code 5 = .ok (.getfield 48, 3) := by decide +kernel
theorem d23_8 : decode jdk_38_method_16_code 8 = .ok (.invokestatic 66, 3) := by decide +kernel
theorem d23_11 : decode jdk_38_method_16_code 11 = .ok (.areturn, 1) := by decide +kernel
theorem d24_0 : decode jdk_65_method_119_code 0 = .ok (.aload_n 0, 1) := by decide +kernel
theorem d24_1 : decode jdk_65_method_119_code 1 = .ok (.iload_n 1, 1) := by decide +kernel
theorem d24_2 : decode jdk_65_method_119_code 2 = .ok (.aload_n 0, 1) := by decide +kernel
theorem d24_3 : decode jdk_65_method_119_code 3 = .ok (.invokevirtual 86, 3) := by decide +kernel
theorem d24_6 : decode jdk_65_method_119_code 6 = .ok (.invokestatic 300, 3) := by decide +kernel
theorem d24_9 : decode jdk_65_method_119_code 9 = .ok (.areturn, 1) := by decide +kernel
theorem d25_0 : decode jdk_65_method_120_code 0 = .ok (.aload_n 2, 1) := by decide +kernel
theorem d25_1 : decode jdk_65_method_120_code 1 = .ok (.ldc 110, 2) := by decide +kernel
theorem d25_3 : decode jdk_65_method_120_code 3 = .ok (.if_acmp .ne 10, 3) := by decide +kernel
theorem d25_6 : decode jdk_65_method_120_code 6 = .ok (.iload_n 1, 1) := by decide +kernel
theorem d25_7 : decode jdk_65_method_120_code 7 = .ok (.anewarray 2, 3) := by decide +kernel
theorem d25_10 : decode jdk_65_method_120_code 10 = .ok (.goto 14, 3) := by decide +kernel
theorem d25_24 : decode jdk_65_method_120_code 24 = .ok (.astore_n 3, 1) := by decide +kernel
theorem d25_25 : decode jdk_65_method_120_code 25 = .ok (.aload_n 0, 1) := by decide +kernel
theorem d25_26 : decode jdk_65_method_120_code 26 = .ok (.iconst 0, 1) := by decide +kernel
theorem d25_27 : decode jdk_65_method_120_code 27 = .ok (.aload_n 3, 1) := by decide +kernel
theorem d25_28 : decode jdk_65_method_120_code 28 = .ok (.iconst 0, 1) := by decide +kernel
theorem d25_29 : decode jdk_65_method_120_code 29 = .ok (.aload_n 0, 1) := by decide +kernel
theorem d25_30 : decode jdk_65_method_120_code 30 = .ok (.arraylength, 1) := by decide +kernel
theorem d25_31 : decode jdk_65_method_120_code 31 = .ok (.iload_n 1, 1) := by decide +kernel
theorem d25_32 : decode jdk_65_method_120_code 32 = .ok (.invokestatic 304, 3) := by decide +kernel
theorem d25_35 : decode jdk_65_method_120_code 35 = .ok (.invokestatic 150, 3) := by decide +kernel
theorem d25_38 : decode jdk_65_method_120_code 38 = .ok (.aload_n 3, 1) := by decide +kernel
theorem d25_39 : decode jdk_65_method_120_code 39 = .ok (.areturn, 1) := by decide +kernel
theorem d26_0 : decode jdk_29_method_69_code 0 = .ok (.iload_n 0, 1) := by decide +kernel
theorem d26_1 : decode jdk_29_method_69_code 1 = .ok (.iload_n 1, 1) := by decide +kernel
theorem d26_2 : decode jdk_29_method_69_code 2 = .ok (.if_icmp .gt 7, 3) := by decide +kernel
theorem d26_9 : decode jdk_29_method_69_code 9 = .ok (.iload_n 1, 1) := by decide +kernel
theorem d26_10 : decode jdk_29_method_69_code 10 = .ok (.ireturn, 1) := by decide +kernel
theorem d27_0 : decode jdk_40_method_47_code 0 = .ok (.aload_n 0, 1) := by decide +kernel
theorem d27_1 : decode jdk_40_method_47_code 1 = .ok (.arraylength, 1) := by decide +kernel
theorem d27_2 : decode jdk_40_method_47_code 2 = .ok (.tableswitch 57 0 2 #[26, 32, 43], 26) := by decide +kernel
theorem d27_34 : decode jdk_40_method_47_code 34 = .ok (.new 96, 3) := by decide +kernel
theorem d27_37 : decode jdk_40_method_47_code 37 = .ok (.dup, 1) := by decide +kernel
theorem d27_38 : decode jdk_40_method_47_code 38 = .ok (.aload_n 0, 1) := by decide +kernel
theorem d27_39 : decode jdk_40_method_47_code 39 = .ok (.iconst 0, 1) := by decide +kernel
theorem d27_40 : decode jdk_40_method_47_code 40 = .ok (.aaload, 1) := by decide +kernel
theorem d27_41 : decode jdk_40_method_47_code 41 = .ok (.invokespecial 98, 3) := by decide +kernel
theorem d27_44 : decode jdk_40_method_47_code 44 = .ok (.areturn, 1) := by decide +kernel
theorem d27_45 : decode jdk_40_method_47_code 45 = .ok (.new 96, 3) := by decide +kernel
theorem d27_48 : decode jdk_40_method_47_code 48 = .ok (.dup, 1) := by decide +kernel
theorem d27_49 : decode jdk_40_method_47_code 49 = .ok (.aload_n 0, 1) := by decide +kernel
theorem d27_50 : decode jdk_40_method_47_code 50 = .ok (.iconst 0, 1) := by decide +kernel
theorem d27_51 : decode jdk_40_method_47_code 51 = .ok (.aaload, 1) := by decide +kernel
theorem d27_52 : decode jdk_40_method_47_code 52 = .ok (.aload_n 0, 1) := by decide +kernel
theorem d27_53 : decode jdk_40_method_47_code 53 = .ok (.iconst 1, 1) := by decide +kernel
theorem d27_54 : decode jdk_40_method_47_code 54 = .ok (.aaload, 1) := by decide +kernel
theorem d27_55 : decode jdk_40_method_47_code 55 = .ok (.invokespecial 100, 3) := by decide +kernel
theorem d27_58 : decode jdk_40_method_47_code 58 = .ok (.areturn, 1) := by decide +kernel
theorem d27_59 : decode jdk_40_method_47_code 59 = .ok (.aload_n 0, 1) := by decide +kernel
theorem d27_60 : decode jdk_40_method_47_code 60 = .ok (.invokestatic 109, 3) := by decide +kernel
theorem d27_63 : decode jdk_40_method_47_code 63 = .ok (.areturn, 1) := by decide +kernel
theorem d28_0 : decode jdk_44_method_1_code 0 = .ok (.aload_n 0, 1) := by decide +kernel
theorem d28_1 : decode jdk_44_method_1_code 1 = .ok (.invokespecial 1, 3) := by decide +kernel
theorem d28_4 : decode jdk_44_method_1_code 4 = .ok (.aload_n 0, 1) := by decide +kernel
theorem d28_5 : decode jdk_44_method_1_code 5 = .ok (.aload_n 1, 1) := by decide +kernel
theorem d28_6 : decode jdk_44_method_1_code 6 = .ok (.invokestatic 7, 3) := by decide +kernel
theorem d28_9 : decode jdk_44_method_1_code 9 = .ok (.putfield 13, 3) := by decide +kernel
theorem d28_12 : decode jdk_44_method_1_code 12 = .ok (.aload_n 0, 1) := by decide +kernel
theorem d28_13 : decode jdk_44_method_1_code 13 = .ok (.getstatic 19, 3) := by decide +kernel
theorem d28_16 : decode jdk_44_method_1_code 16 = .ok (.putfield 24, 3) := by decide +kernel
theorem d28_19 : decode jdk_44_method_1_code 19 = .ok (.return_, 1) := by decide +kernel
theorem d29_0 : decode jdk_46_method_1_code 0 = .ok (.aload_n 0, 1) := by decide +kernel
theorem d29_1 : decode jdk_46_method_1_code 1 = .ok (.invokespecial 1, 3) := by decide +kernel
theorem d29_4 : decode jdk_46_method_1_code 4 = .ok (.return_, 1) := by decide +kernel
theorem d30_0 : decode jdk_47_method_1_code 0 = .ok (.aload_n 0, 1) := by decide +kernel
theorem d30_1 : decode jdk_47_method_1_code 1 = .ok (.invokespecial 1, 3) := by decide +kernel
theorem d30_4 : decode jdk_47_method_1_code 4 = .ok (.return_, 1) := by decide +kernel
theorem d31_0 : decode jdk_31_method_10_code 0 = .ok (.aload_n 0, 1) := by decide +kernel
theorem d31_1 : decode jdk_31_method_10_code 1 = .ok (.ifnonnull 11, 3) := by decide +kernel
theorem d31_12 : decode jdk_31_method_10_code 12 = .ok (.aload_n 0, 1) := by decide +kernel
theorem d31_13 : decode jdk_31_method_10_code 13 = .ok (.areturn, 1) := by decide +kernel
theorem d32_0 : decode prog_20_method_3_code 0 = .ok (.aload_n 0, 1) := by decide +kernel
theorem d32_1 : decode prog_20_method_3_code 1 = .ok (.getfield 32, 3) := by decide +kernel
theorem d32_4 : decode prog_20_method_3_code 4 = .ok (.aload_n 0, 1) := by decide +kernel
theorem d32_5 : decode prog_20_method_3_code 5 = .ok (.getfield 32, 3) := by decide +kernel
theorem d32_8 : decode prog_20_method_3_code 8 = .ok (.invokeinterface 36 1, 5) := by decide +kernel
theorem d32_13 : decode prog_20_method_3_code 13 = .ok (.iconst 1, 1) := by decide +kernel
theorem d32_14 : decode prog_20_method_3_code 14 = .ok (.isub, 1) := by decide +kernel
theorem d32_15 : decode prog_20_method_3_code 15 = .ok (.invokeinterface 44 2, 5) := by decide +kernel
theorem d32_20 : decode prog_20_method_3_code 20 = .ok (.checkcast 48, 3) := by decide +kernel
theorem d32_23 : decode prog_20_method_3_code 23 = .ok (.areturn, 1) := by decide +kernel
theorem d33_0 : decode jdk_44_method_3_code 0 = .ok (.aload_n 0, 1) := by decide +kernel
theorem d33_1 : decode jdk_44_method_3_code 1 = .ok (.getfield 24, 3) := by decide +kernel
theorem d33_4 : decode jdk_44_method_3_code 4 = .ok (.getstatic 19, 3) := by decide +kernel
theorem d33_7 : decode jdk_44_method_3_code 7 = .ok (.if_acmp .eq 7, 3) := by decide +kernel
theorem d33_10 : decode jdk_44_method_3_code 10 = .ok (.iconst 2, 1) := by decide +kernel
theorem d33_11 : decode jdk_44_method_3_code 11 = .ok (.goto 4, 3) := by decide +kernel
theorem d33_14 : decode jdk_44_method_3_code 14 = .ok (.iconst 1, 1) := by decide +kernel
theorem d33_15 : decode jdk_44_method_3_code 15 = .ok (.ireturn, 1) := by decide +kernel
theorem d34_0 : decode jdk_44_method_5_code 0 = .ok (.iload_n 1, 1) := by decide +kernel
theorem d34_1 : decode jdk_44_method_5_code 1 = .ok (.ifCond .ne 8, 3) := by decide +kernel
theorem d34_4 : decode jdk_44_method_5_code 4 = .ok (.aload_n 0, 1) := by decide +kernel
theorem d34_5 : decode jdk_44_method_5_code 5 = .ok (.getfield 13, 3) := by decide +kernel
theorem d34_8 : decode jdk_44_method_5_code 8 = .ok (.areturn, 1) := by decide +kernel
theorem d34_9 : decode jdk_44_method_5_code 9 = .ok (.iload_n 1, 1) := by decide +kernel
theorem d34_10 : decode jdk_44_method_5_code 10 = .ok (.iconst 1, 1) := by decide +kernel
theorem d34_11 : decode jdk_44_method_5_code 11 = .ok (.if_icmp .ne 18, 3) := by decide +kernel
theorem d34_14 : decode jdk_44_method_5_code 14 = .ok (.aload_n 0, 1) := by decide +kernel
theorem d34_15 : decode jdk_44_method_5_code 15 = .ok (.getfield 24, 3) := by decide +kernel
theorem d34_18 : decode jdk_44_method_5_code 18 = .ok (.getstatic 19, 3) := by decide +kernel
theorem d34_21 : decode jdk_44_method_5_code 21 = .ok (.if_acmp .eq 8, 3) := by decide +kernel
theorem d34_24 : decode jdk_44_method_5_code 24 = .ok (.aload_n 0, 1) := by decide +kernel
theorem d34_25 : decode jdk_44_method_5_code 25 = .ok (.getfield 24, 3) := by decide +kernel
theorem d34_28 : decode jdk_44_method_5_code 28 = .ok (.areturn, 1) := by decide +kernel
theorem d35_0 : decode jdk_44_method_2_code 0 = .ok (.aload_n 0, 1) := by decide +kernel
theorem d35_1 : decode jdk_44_method_2_code 1 = .ok (.invokespecial 1, 3) := by decide +kernel
theorem d35_4 : decode jdk_44_method_2_code 4 = .ok (.aload_n 0, 1) := by decide +kernel
theorem d35_5 : decode jdk_44_method_2_code 5 = .ok (.aload_n 1, 1) := by decide +kernel
theorem d35_6 : decode jdk_44_method_2_code 6 = .ok (.invokestatic 7, 3) := by decide +kernel
theorem d35_9 : decode jdk_44_method_2_code 9 = .ok (.putfield 13, 3) := by decide +kernel
theorem d35_12 : decode jdk_44_method_2_code 12 = .ok (.aload_n 0, 1) := by decide +kernel
theorem d35_13 : decode jdk_44_method_2_code 13 = .ok (.aload_n 2, 1) := by decide +kernel
theorem d35_14 : decode jdk_44_method_2_code 14 = .ok (.invokestatic 7, 3) := by decide +kernel
theorem d35_17 : decode jdk_44_method_2_code 17 = .ok (.putfield 24, 3) := by decide +kernel
theorem d35_20 : decode jdk_44_method_2_code 20 = .ok (.return_, 1) := by decide +kernel
theorem d36_0 : decode jdk_56_method_4_code 0 = .ok (.aload_n 0, 1) := by decide +kernel
theorem d36_1 : decode jdk_56_method_4_code 1 = .ok (.arraylength, 1) := by decide +kernel
theorem d36_2 : decode jdk_56_method_4_code 2 = .ok (.anewarray 2, 3) := by decide +kernel
theorem d36_5 : decode jdk_56_method_4_code 5 = .ok (.astore_n 1, 1) := by decide +kernel
theorem d36_6 : decode jdk_56_method_4_code 6 = .ok (.iconst 0, 1) := by decide +kernel
theorem d36_7 : decode jdk_56_method_4_code 7 = .ok (.istore_n 2, 1) := by decide +kernel
theorem d36_8 : decode jdk_56_method_4_code 8 = .ok (.iload_n 2, 1) := by decide +kernel
theorem d36_9 : decode jdk_56_method_4_code 9 = .ok (.aload_n 0, 1) := by decide +kernel
theorem d36_10 : decode jdk_56_method_4_code 10 = .ok (.arraylength, 1) := by decide +kernel
theorem d36_11 : decode jdk_56_method_4_code 11 = .ok (.if_icmp .ge 18, 3) := by decide +kernel
theorem d36_14 : decode jdk_56_method_4_code 14 = .ok (.aload_n 1, 1) := by decide +kernel
theorem d36_15 : decode jdk_56_method_4_code 15 = .ok (.iload_n 2, 1) := by decide +kernel
theorem d36_16 : decode jdk_56_method_4_code 16 = .ok (.aload_n 0, 1) := by decide +kernel
theorem d36_17 : decode jdk_56_method_4_code 17 = .ok (.iload_n 2, 1) := by decide +kernel
theorem d36_18 : decode jdk_56_method_4_code 18 = .ok (.aaload, 1) := by decide +kernel
theorem d36_19 : decode jdk_56_method_4_code 19 = .ok (.invokestatic 37, 3) := by decide +kernel
theorem d36_22 : decode jdk_56_method_4_code 22 = .ok (.aastore, 1) := by decide +kernel
theorem d36_23 : decode jdk_56_method_4_code 23 = .ok (.iinc 2 1, 3) := by decide +kernel
theorem d36_26 : decode jdk_56_method_4_code 26 = .ok (.goto (-18), 3) := by decide +kernel
theorem d36_29 : decode jdk_56_method_4_code 29 = .ok (.new 12, 3) := by decide +kernel
theorem d36_32 : decode jdk_56_method_4_code 32 = .ok (.dup, 1) := by decide +kernel
theorem d36_33 : decode jdk_56_method_4_code 33 = .ok (.aload_n 1, 1) := by decide +kernel
theorem d36_34 : decode jdk_56_method_4_code 34 = .ok (.iconst 0, 1) := by decide +kernel
theorem d36_35 : decode jdk_56_method_4_code 35 = .ok (.invokespecial 43, 3) := by decide +kernel
theorem d36_38 : decode jdk_56_method_4_code 38 = .ok (.areturn, 1) := by decide +kernel
theorem d37_0 : decode jdk_45_method_1_code 0 = .ok (.aload_n 0, 1) := by decide +kernel
theorem d37_1 : decode jdk_45_method_1_code 1 = .ok (.invokespecial 1, 3) := by decide +kernel
theorem d37_4 : decode jdk_45_method_1_code 4 = .ok (.aload_n 0, 1) := by decide +kernel
theorem d37_5 : decode jdk_45_method_1_code 5 = .ok (.aload_n 1, 1) := by decide +kernel
theorem d37_6 : decode jdk_45_method_1_code 6 = .ok (.putfield 7, 3) := by decide +kernel
theorem d37_9 : decode jdk_45_method_1_code 9 = .ok (.aload_n 0, 1) := by decide +kernel
theorem d37_10 : decode jdk_45_method_1_code 10 = .ok (.iload_n 2, 1) := by decide +kernel
theorem d37_11 : decode jdk_45_method_1_code 11 = .ok (.putfield 13, 3) := by decide +kernel
theorem d37_14 : decode jdk_45_method_1_code 14 = .ok (.return_, 1) := by decide +kernel
theorem d38_0 : decode jdk_45_method_3_code 0 = .ok (.aload_n 0, 1) := by decide +kernel
theorem d38_1 : decode jdk_45_method_3_code 1 = .ok (.getfield 7, 3) := by decide +kernel
theorem d38_4 : decode jdk_45_method_3_code 4 = .ok (.arraylength, 1) := by decide +kernel
theorem d38_5 : decode jdk_45_method_3_code 5 = .ok (.ireturn, 1) := by decide +kernel
theorem d39_0 : decode jdk_45_method_4_code 0 = .ok (.aload_n 0, 1) := by decide +kernel
theorem d39_1 : decode jdk_45_method_4_code 1 = .ok (.getfield 7, 3) := by decide +kernel
theorem d39_4 : decode jdk_45_method_4_code 4 = .ok (.iload_n 1, 1) := by decide +kernel
theorem d39_5 : decode jdk_45_method_4_code 5 = .ok (.aaload, 1) := by decide +kernel
theorem d39_6 : decode jdk_45_method_4_code 6 = .ok (.areturn, 1) := by decide +kernel
theorem pd0 : parseMethodDescriptor "([C)V" = some ⟨[(.array .char)], none⟩ := by decide +kernel
theorem pd1 : parseMethodDescriptor "()V" = some ⟨[], none⟩ := by decide +kernel
theorem pd2 : parseMethodDescriptor "()Z" = some ⟨[], some .boolean⟩ := by decide +kernel
theorem pd3 : parseMethodDescriptor "()Ljava/util/List;" = some ⟨[], some (.object "java/util/List")⟩ := by decide +kernel
theorem pd4 : parseMethodDescriptor "(Ljava/util/Collection;)Ljava/util/List;" = some ⟨[(.object "java/util/Collection")], some (.object "java/util/List")⟩ := by decide +kernel
theorem pd5 : parseMethodDescriptor "(Ljava/lang/String;Ljava/time/LocalDateTime;Ljava/util/List;Ljava/util/List;)V" = some ⟨[(.object "java/lang/String"), (.object "java/time/LocalDateTime"), (.object "java/util/List"), (.object "java/util/List")], none⟩ := by decide +kernel
theorem pd6 : parseMethodDescriptor "(I)Lcom/example/sessn/sessn/log/LoggedQuery;" = some ⟨[.int], some (.object "com/example/sessn/sessn/log/LoggedQuery")⟩ := by decide +kernel
theorem pd7 : parseMethodDescriptor "(II)I" = some ⟨[.int, .int], some .int⟩ := by decide +kernel
theorem pd8 : parseMethodDescriptor "(I)[Ljava/lang/Object;" = some ⟨[.int], some (.array (.object "java/lang/Object"))⟩ := by decide +kernel
theorem pd9 : parseMethodDescriptor "()[Ljava/lang/Object;" = some ⟨[], some (.array (.object "java/lang/Object"))⟩ := by decide +kernel
theorem pd10 : parseMethodDescriptor "(Ljava/lang/Object;[Ljava/lang/Object;I)V" = some ⟨[(.object "java/lang/Object"), (.array (.object "java/lang/Object")), .int], none⟩ := by decide +kernel
theorem pd11 : parseMethodDescriptor "(Ljava/lang/Object;)Z" = some ⟨[(.object "java/lang/Object")], some .boolean⟩ := by decide +kernel
theorem pd12 : parseMethodDescriptor "([Ljava/lang/Object;ILjava/lang/Class;)[Ljava/lang/Object;" = some ⟨[(.array (.object "java/lang/Object")), .int, (.object "java/lang/Class")], some (.array (.object "java/lang/Object"))⟩ := by decide +kernel
theorem pd13 : parseMethodDescriptor "([Ljava/lang/Object;I)[Ljava/lang/Object;" = some ⟨[(.array (.object "java/lang/Object")), .int], some (.array (.object "java/lang/Object"))⟩ := by decide +kernel
theorem pd14 : parseMethodDescriptor "(Ljava/lang/Object;)Ljava/lang/Object;" = some ⟨[(.object "java/lang/Object")], some (.object "java/lang/Object")⟩ := by decide +kernel
theorem pd15 : parseMethodDescriptor "(Ljava/lang/Object;)V" = some ⟨[(.object "java/lang/Object")], none⟩ := by decide +kernel
theorem pd16 : parseMethodDescriptor "([Ljava/lang/Object;)Ljava/util/List;" = some ⟨[(.array (.object "java/lang/Object"))], some (.object "java/util/List")⟩ := by decide +kernel
theorem pd17 : parseMethodDescriptor "(Ljava/lang/String;Ljava/util/List;)V" = some ⟨[(.object "java/lang/String"), (.object "java/util/List")], none⟩ := by decide +kernel
theorem pd18 : parseMethodDescriptor "()I" = some ⟨[], some .int⟩ := by decide +kernel
theorem pd19 : parseMethodDescriptor "(I)Ljava/lang/Object;" = some ⟨[.int], some (.object "java/lang/Object")⟩ := by decide +kernel
theorem pd20 : parseMethodDescriptor "()Lcom/example/sessn/sessn/log/LoggedQuery;" = some ⟨[], some (.object "com/example/sessn/sessn/log/LoggedQuery")⟩ := by decide +kernel
theorem pd21 : parseMethodDescriptor "(Ljava/lang/Object;Ljava/lang/Object;)V" = some ⟨[(.object "java/lang/Object"), (.object "java/lang/Object")], none⟩ := by decide +kernel
theorem pd22 : parseMethodDescriptor "([Ljava/lang/Object;Z)V" = some ⟨[(.array (.object "java/lang/Object")), .boolean], none⟩ := by decide +kernel
theorem pn0 : plainName "java/util/AbstractCollection" = true := by first | (simp [plainName, overriddenIn]; done) | decide +kernel
theorem pn1 : plainName "java/util/AbstractList" = true := by first | (simp [plainName, overriddenIn]; done) | decide +kernel
theorem pn2 : plainName "java/util/ArrayList" = true := by first | (simp [plainName, overriddenIn]; done) | decide +kernel
theorem pn3 : plainName "java/lang/Record" = true := by first | (simp [plainName, overriddenIn]; done) | decide +kernel
theorem pn4 : plainName "java/util/List" = true := by first | (simp [plainName, overriddenIn]; done) | decide +kernel
theorem pn5 : plainName "java/util/ImmutableCollections" = true := by first | (simp [plainName, overriddenIn]; done) | decide +kernel
theorem pn6 : plainName "com/example/sessn/sessn/log/LoggedQuery" = true := by first | (simp [plainName, overriddenIn]; done) | decide +kernel
theorem pn7 : plainName "com/example/sessn/sessn/log/LoggedSessionCurrentPinLaw" = true := by first | (simp [plainName, overriddenIn]; done) | decide +kernel
theorem pn8 : plainName "java/util/Arrays" = true := by first | (simp [plainName, overriddenIn]; done) | decide +kernel
theorem pn9 : plainName "java/util/ImmutableCollections$AbstractImmutableCollection" = true := by first | (simp [plainName, overriddenIn]; done) | decide +kernel
theorem pn10 : plainName "java/util/ImmutableCollections$AbstractImmutableList" = true := by first | (simp [plainName, overriddenIn]; done) | decide +kernel
theorem pn11 : plainName "java/util/Objects" = true := by first | (simp [plainName, overriddenIn]; done) | decide +kernel
theorem pn12 : plainName "java/util/ImmutableCollections$List12" = true := by first | (simp [plainName, overriddenIn]; done) | decide +kernel
theorem pn13 : plainName "com/example/sessn/sessn/log/LoggedSession" = true := by first | (simp [plainName, overriddenIn]; done) | decide +kernel
theorem pn14 : plainName "java/util/ImmutableCollections$ListN" = true := by first | (simp [plainName, overriddenIn]; done) | decide +kernel
theorem rm1 (l : Launch) (Z : State) (a0 : Array Value) (hw : ∀ d ∈ tables_1, d.before a0 Z = true) (a1 : Addr) (h0 : Heap) (O0 : Old Z Z.heap.size h0) :
    CtrN l Z (⟨"java/util/AbstractCollection", "<init>", "()V"⟩ : MethodName) jdk_22_method_1_code 1 none [] (⟨1, 0, 0, 12⟩ : Room) #[(.ref a1)] h0 [] (fun v h => v = none) := by
  refine CtrN.intro (L0 := #[.val (.ref a1)]) (plainFor_of_name pn0) O0 (own_entry rfl) ?_
  intro p e s m below meth c T0 hy hml hret hlk hnm W0
  refine o_aloadN W0 (pc' := 1) (hb hy d10_0) rfl rfl rfl ?_
  refine o_initO W0 (w56 hw) (w20 hw) (w21 hw) (by rw [hml]; rfl) (pc' := 4) (hb hy d10_1) rfl (by decide) 0 (by exact Nat.le_of_eq rfl) (by decide) ?_
  intro T1 W1
  exact o_ret0 W1 hlk hret (hb hy d10_4) (by decide) (by decide) rfl
theorem rm2 (l : Launch) (Z : State) (a0 : Array Value) (hw : ∀ d ∈ tables_1, d.before a0 Z = true) (a1 : Addr) (h0 : Heap) (O0 : Old Z Z.heap.size h0) (E_a1 : Exa Z h0 a1 "java/util/ArrayList") (F_a1_modCount : Fld Z h0 a1 "java/util/AbstractList" "modCount" "I" (.int 0)) (g_a1 : Z.heap.size ≤ a1) (F_a1_elementData : Fld Z h0 a1 "java/util/ArrayList" "elementData" "[Ljava/lang/Object;" .null) (F_a1_size : Fld Z h0 a1 "java/util/ArrayList" "size" "I" (.int 0)) :
    CtrN l Z (⟨"java/util/AbstractList", "<init>", "()V"⟩ : MethodName) jdk_39_method_1_code 1 none [] (⟨2, 0, 0, 24⟩ : Room) #[(.ref a1)] h0 [a1] (fun v h => Fld Z h a1 "java/util/AbstractList" "modCount" "I" (.int 0) ∧ Fld Z h a1 "java/util/ArrayList" "elementData" "[Ljava/lang/Object;" .null ∧ Fld Z h a1 "java/util/ArrayList" "size" "I" (.int 0) ∧ v = none) := by
  refine CtrN.intro (L0 := #[.val (.ref a1)]) (plainFor_of_name pn1) O0 (own_entry rfl) ?_
  intro p e s m below meth c T0 hy hml hret hlk hnm W0
  refine o_aloadN W0 (pc' := 1) (hb hy d9_0) rfl rfl rfl ?_
  refine o_special W0 (y := (⟨"java/util/AbstractCollection", "<init>", "()V"⟩ : MethodName)) rfl (w50 hw) (w51 hw) (w55 hw) (by decide) (a := a1) (argsL := []) (CtrN.back (Wd := 0) W0 (rm1 l Z a0 hw a1 h0 W0.old ) (w55 hw) (w54 hw) (by decide) (by decide)) (by rw [hml]; rfl) (lenOf pd1 rfl) (S := []) rfl (by exact Nat.le_of_eq rfl) (pc' := 4) (hb hy d9_1) rfl (cells' := 0) (slots' := 0) rfl rfl (by decide) (by decide) (wy := []) (fun _ _ _ q => ⟨q.1, q.2.1⟩) all0 (fun _ _ => trivial) ?_
  intro v1 T1 h1 lo1 W1 K1 q1
  obtain rfl := q1.2.2
  show Gl _ _ _ _ _ _ _ _ []
  refine o_aloadN W1 (pc' := 5) (hb hy d9_4) rfl rfl rfl ?_
  refine o_iconst W1 (v := 0) (pc' := 6) (hb hy d9_5) rfl rfl ?_
  have c2 := (E_a1.keep K1)
  have c3 := (F_a1_modCount.keep K1 nin0)
  refine o_putF W1 (w57 hw) Via.refl c3 c2 (Or.inl (w58 hw)) (w39 hw) (ty := .int) (v' := (.int 0)) (by decide) rfl rfl g_a1 (Or.inl (List.mem_of_getElem? (i := 0) rfl)) (fun _ _ => trivial) (pc' := 9) (hb hy d9_6) rfl ?_
  intro T4 h4 lo4 W4 R4
  have F4 := c3.same R4
  have c5 := ((F_a1_elementData.keep K1 nin0).other R4 (Or.inr (slot_ne (Or.inl (w61 hw)) (Or.inl (w58 hw)) (by decide) (t := (.array (.object "java/lang/Object"))) (t' := .int) (by decide) (by decide))))
  have c6 := ((F_a1_size.keep K1 nin0).other R4 (Or.inr (slot_ne (Or.inl (w95 hw)) (Or.inl (w58 hw)) (by decide) (t := .int) (t' := .int) (by decide) (by decide))))
  have c7 := (c2.wr R4)
  exact o_ret0 W4 hlk hret (hb hy d9_9) (by decide) (by decide) ⟨F4, c5, c6, rfl⟩
theorem rm3 (l : Launch) (Z : State) (a0 : Array Value) (hw : ∀ d ∈ tables_1, d.before a0 Z = true) (gO2 a1 : Addr) (h0 : Heap) (O0 : Old Z Z.heap.size h0) (E_a1 : Exa Z h0 a1 "java/util/ArrayList") (F_a1_modCount : Fld Z h0 a1 "java/util/AbstractList" "modCount" "I" (.int 0)) (F_a1_elementData : Fld Z h0 a1 "java/util/ArrayList" "elementData" "[Ljava/lang/Object;" .null) (F_a1_size : Fld Z h0 a1 "java/util/ArrayList" "size" "I" (.int 0)) (g_a1 : Z.heap.size ≤ a1) (SgO2_DEFAULTCAPACITY_EMPTY_ELEMENTDATA : Sta Z Z.heap "java/util/ArrayList" "DEFAULTCAPACITY_EMPTY_ELEMENTDATA" "[Ljava/lang/Object;" (.ref gO2)) :
    CtrN l Z (⟨"java/util/ArrayList", "<init>", "()V"⟩ : MethodName) jdk_38_method_2_code 1 none [] (⟨3, 0, 0, 36⟩ : Room) #[(.ref a1)] h0 [a1] (fun v h => Fld Z h a1 "java/util/AbstractList" "modCount" "I" (.int 0) ∧ Fld Z h a1 "java/util/ArrayList" "elementData" "[Ljava/lang/Object;" (.ref gO2) ∧ Fld Z h a1 "java/util/ArrayList" "size" "I" (.int 0) ∧ v = none) := by
  refine CtrN.intro (L0 := #[.val (.ref a1)]) (plainFor_of_name pn2) O0 (own_entry rfl) ?_
  intro p e s m below meth c T0 hy hml hret hlk hnm W0
  refine o_aloadN W0 (pc' := 1) (hb hy d8_0) rfl rfl rfl ?_
  refine o_special W0 (y := (⟨"java/util/AbstractList", "<init>", "()V"⟩ : MethodName)) rfl (w44 hw) (w45 hw) (w49 hw) (by decide) (a := a1) (argsL := []) (CtrN.back (Wd := 0) W0 (rm2 l Z a0 hw a1 h0 W0.old E_a1 F_a1_modCount g_a1 F_a1_elementData F_a1_size) (w49 hw) (w48 hw) (by decide) (by decide)) (by rw [hml]; rfl) (lenOf pd1 rfl) (S := []) rfl (by exact Nat.le_of_eq rfl) (pc' := 4) (hb hy d8_1) rfl (cells' := 0) (slots' := 0) rfl rfl (by decide) (by decide) (wy := [a1]) (fun _ _ _ q => ⟨q.1, q.2.1⟩) (allS ⟨g_a1, (Or.inl (List.mem_of_getElem? (i := 0) rfl))⟩ all0) (fun _ _ => trivial) ?_
  intro v1 T1 h1 lo1 W1 K1 q1
  obtain ⟨P1_0, P1_1, P1_2, rfl⟩ := q1.2.2
  show Gl _ _ _ _ _ _ _ _ []
  refine o_aloadN W1 (pc' := 5) (hb hy d8_4) rfl rfl rfl ?_
  refine o_getS W1 (w59 hw) Via.refl (SgO2_DEFAULTCAPACITY_EMPTY_ELEMENTDATA.ext W1.ox) (pc' := 8) (hb hy d8_5) rfl ?_
  intro T2 W2
  have c3 := (E_a1.keep K1)
  refine o_putF W2 (w60 hw) Via.refl P1_1 c3 (Or.inl (w61 hw)) (w39 hw) (ty := (.array (.object "java/lang/Object"))) (v' := (.ref gO2)) (by decide) rfl rfl g_a1 (Or.inl (List.mem_of_getElem? (i := 0) rfl)) (fun _ _ => trivial) (pc' := 11) (hb hy d8_8) rfl ?_
  intro T4 h4 lo4 W4 R4
  have F4 := P1_1.same R4
  have c5 := (P1_0.other R4 (Or.inr (slot_ne (Or.inl (w58 hw)) (Or.inl (w61 hw)) (by decide) (t := .int) (t' := (.array (.object "java/lang/Object"))) (by decide) (by decide))))
  have c6 := (P1_2.other R4 (Or.inr (slot_ne (Or.inl (w95 hw)) (Or.inl (w61 hw)) (by decide) (t := .int) (t' := (.array (.object "java/lang/Object"))) (by decide) (by decide))))
  have c7 := (c3.wr R4)
  exact o_ret0 W4 hlk hret (hb hy d8_11) (by decide) (by decide) ⟨c5, F4, c6, rfl⟩
theorem rm4 (l : Launch) (Z : State) (a0 : Array Value) (hw : ∀ d ∈ tables_1, d.before a0 Z = true) (a1 : Addr) (h0 : Heap) (O0 : Old Z Z.heap.size h0) :
    CtrN l Z (⟨"java/lang/Record", "<init>", "()V"⟩ : MethodName) jdk_30_method_1_code 1 none [] (⟨1, 0, 0, 12⟩ : Room) #[(.ref a1)] h0 [] (fun v h => v = none) := by
  refine CtrN.intro (L0 := #[.val (.ref a1)]) (plainFor_of_name pn3) O0 (own_entry rfl) ?_
  intro p e s m below meth c T0 hy hml hret hlk hnm W0
  refine o_aloadN W0 (pc' := 1) (hb hy d12_0) rfl rfl rfl ?_
  refine o_initO W0 (w70 hw) (w20 hw) (w21 hw) (by rw [hml]; rfl) (pc' := 4) (hb hy d12_1) rfl (by decide) 0 (by exact Nat.le_of_eq rfl) (by decide) ?_
  intro T1 W1
  exact o_ret0 W1 hlk hret (hb hy d12_4) (by decide) (by decide) rfl
theorem rm5 (l : Launch) (Z : State) (a0 : Array Value) (hw : ∀ d ∈ tables_1, d.before a0 Z = true) (a1 : Addr) (h0 : Heap) (O0 : Old Z Z.heap.size h0) (F_a1_size : Fld Z h0 a1 "java/util/ArrayList" "size" "I" (.int 0)) :
    CtrN l Z (⟨"java/util/ArrayList", "isEmpty", "()Z"⟩ : MethodName) jdk_38_method_9_code 1 (some .boolean) [] (⟨0, 0, 0, 0⟩ : Room) #[(.ref a1)] h0 [] (fun v h => v = some (.int 1)) := by
  refine CtrN.intro (L0 := #[.val (.ref a1)]) (plainFor_of_name pn2) O0 (own_entry rfl) ?_
  intro p e s m below meth c T0 hy hml hret hlk hnm W0
  refine o_aloadN W0 (pc' := 1) (hb hy d15_0) rfl rfl rfl ?_
  refine o_getF W0 (w94 hw) Via.refl F_a1_size (pc' := 4) (hb hy d15_1) rfl ?_
  intro T1 W1
  refine o_ifN W1 (pc' := 7) (hb hy d15_4) (XT.i0_ne_f (by decide)) rfl ?_
  refine o_iconst W1 (v := 1) (pc' := 8) (hb hy d15_7) rfl rfl ?_
  refine o_goto W1 (pc' := 12) (hb hy d15_8) (by decide) rfl ?_
  exact o_retN W1 hlk (t := .boolean) hret (by simp) (z' := (1 : Int32)) (by decide) (hb hy d15_12) (by decide) (by decide) rfl
theorem rm6 (l : Launch) (Z : State) (a0 : Array Value) (hw : ∀ d ∈ tables_1, d.before a0 Z = true) (gO3 : Addr) (h0 : Heap) (O0 : Old Z Z.heap.size h0) (SgO3_EMPTY_LIST : Sta Z Z.heap "java/util/ImmutableCollections" "EMPTY_LIST" "Ljava/util/ImmutableCollections$ListN;" (.ref gO3)) :
    CtrN l Z (⟨"java/util/List", "of", "()Ljava/util/List;"⟩ : MethodName) jdk_40_method_36_code 0 (some (.object "java/util/List")) [] (⟨0, 0, 0, 0⟩ : Room) #[] h0 [] (fun v h => v = some (.ref gO3)) := by
  refine CtrN.intro (L0 := #[]) (plainFor_of_name pn4) O0 (own_entry rfl) ?_
  intro p e s m below meth c T0 hy hml hret hlk hnm W0
  refine o_getS W0 (w99 hw) Via.refl (SgO3_EMPTY_LIST.ext W0.ox) (pc' := 3) (hb hy d16_0) rfl ?_
  intro T1 W1
  exact o_retA W1 hlk (v := (.ref gO3)) hret rfl rfl (hb hy d16_3) (by decide) (by decide) rfl
theorem rm7 (l : Launch) (Z : State) (a0 : Array Value) (hw : ∀ d ∈ tables_1, d.before a0 Z = true) (gO3 a1 : Addr) (h0 : Heap) (O0 : Old Z Z.heap.size h0) (E_a1 : Exa Z h0 a1 "java/util/ArrayList") (F_a1_size : Fld Z h0 a1 "java/util/ArrayList" "size" "I" (.int 0)) (SgO3_EMPTY_LIST : Sta Z Z.heap "java/util/ImmutableCollections" "EMPTY_LIST" "Ljava/util/ImmutableCollections$ListN;" (.ref gO3)) :
    CtrN l Z (⟨"java/util/ImmutableCollections", "listCopy", "(Ljava/util/Collection;)Ljava/util/List;"⟩ : MethodName) jdk_56_method_3_code 2 (some (.object "java/util/List")) [] (⟨1, 0, 0, 12⟩ : Room) #[(.ref a1)] h0 [] (fun v h => v = some (.ref gO3)) := by
  refine CtrN.intro (L0 := #[.val (.ref a1), .unset]) (plainFor_of_name pn5) O0 (own_entry rfl) ?_
  intro p e s m below meth c T0 hy hml hret hlk hnm W0
  refine o_aloadN W0 (pc' := 1) (hb hy d14_0) rfl rfl rfl ?_
  refine o_instN W0 (w79 hw) E_a1 (own_NSno (w80 hw) (w187 hw) (NS.step (w80 hw) (NS.step (w81 hw) (NS.step (w82 hw) (own_NSr (w83 hw) (w187 hw) (by decide)) (by decide)) (by decide)) (by decide)) (by decide)) (pc' := 4) (hb hy d14_1) rfl ?_
  intro T1 W1
  refine o_ifN W1 (pc' := 7) (hb hy d14_4) (XT.i0_ne_f (by decide)) rfl ?_
  refine o_aloadN W1 (pc' := 8) (hb hy d14_7) rfl rfl rfl ?_
  refine o_instN W1 (w84 hw) E_a1 (own_NSno (w80 hw) (w252 hw) (NS.step (w80 hw) (NS.step (w81 hw) (NS.step (w82 hw) (own_NSr (w83 hw) (w252 hw) (by decide)) (by decide)) (by decide)) (by decide)) (by decide)) (pc' := 11) (hb hy d14_8) rfl ?_
  intro T2 W2
  refine o_ifY W2 (pc' := 31) (hb hy d14_11) (XT.i0_eq_t (by decide)) (by decide) rfl ?_
  refine o_aloadN W2 (pc' := 32) (hb hy d14_31) rfl rfl rfl ?_
  refine o_iface W2 (y := (⟨"java/util/Collection", "isEmpty", "()Z"⟩ : MethodName)) (z := (⟨"java/util/ArrayList", "isEmpty", "()Z"⟩ : MethodName)) (w85 hw) (w86 hw) (w87 hw) (w88 hw) (w89 hw) (w90 hw) (w91 hw) (w92 hw) (by decide) E_a1 (argsL := []) (CtrN.back (Wd := 0) W2 (rm5 l Z a0 hw a1 h0 W2.old F_a1_size) (w93 hw) (w40 hw) (by decide) (by decide)) (by rw [hml]; rfl) (lenOf pd2 rfl) (S := []) rfl (by exact Nat.le_of_eq rfl) (pc' := 37) (hb hy d14_32) rfl (cells' := 0) (slots' := 0) rfl rfl (by decide) (by decide) (wy := []) (fun _ _ _ q => ⟨q.1, q.2.1⟩) all0 (fun _ _ => trivial) ?_
  intro v3 T3 h3 lo3 W3 K3 q3
  obtain rfl := q3.2.2
  show Gl _ _ _ _ _ _ _ _ [(.int 1)]
  refine o_ifN W3 (pc' := 40) (hb hy d14_37) (XT.i0_eq_f (by decide)) rfl ?_
  refine o_static W3 (y := (⟨"java/util/List", "of", "()Ljava/util/List;"⟩ : MethodName)) (w96 hw) (w97 hw) (w73 hw) (w98 hw) (by decide) (argsL := []) (CtrN.back (Wd := 0) W3 (rm6 l Z a0 hw gO3 h3 W3.old SgO3_EMPTY_LIST) (w98 hw) (w73 hw) (by decide) (by decide)) (by rw [hml]; rfl) (lenOf pd3 rfl) (S := []) rfl (by exact Nat.le_of_eq rfl) (pc' := 43) (hb hy d14_40) rfl (cells' := 0) (slots' := 0) rfl rfl (by decide) (by decide) (wy := []) (fun _ _ _ q => ⟨q.1, q.2.1⟩) all0 (fun _ _ => trivial) ?_
  intro v4 T4 h4 lo4 W4 K4 q4
  obtain rfl := q4.2.2
  show Gl _ _ _ _ _ _ _ _ [(.ref gO3)]
  exact o_retA W4 hlk (v := (.ref gO3)) hret rfl rfl (hb hy d14_43) (by decide) (by decide) rfl
theorem rm8 (l : Launch) (Z : State) (a0 : Array Value) (hw : ∀ d ∈ tables_1, d.before a0 Z = true) (gO3 a1 : Addr) (h0 : Heap) (O0 : Old Z Z.heap.size h0) (E_a1 : Exa Z h0 a1 "java/util/ArrayList") (F_a1_size : Fld Z h0 a1 "java/util/ArrayList" "size" "I" (.int 0)) (SgO3_EMPTY_LIST : Sta Z Z.heap "java/util/ImmutableCollections" "EMPTY_LIST" "Ljava/util/ImmutableCollections$ListN;" (.ref gO3)) :
    CtrN l Z (⟨"java/util/List", "copyOf", "(Ljava/util/Collection;)Ljava/util/List;"⟩ : MethodName) jdk_40_method_48_code 1 (some (.object "java/util/List")) [] (⟨2, 0, 0, 25⟩ : Room) #[(.ref a1)] h0 [] (fun v h => v = some (.ref gO3)) := by
  refine CtrN.intro (L0 := #[.val (.ref a1)]) (plainFor_of_name pn4) O0 (own_entry rfl) ?_
  intro p e s m below meth c T0 hy hml hret hlk hnm W0
  refine o_aloadN W0 (pc' := 1) (hb hy d13_0) rfl rfl rfl ?_
  refine o_static W0 (y := (⟨"java/util/ImmutableCollections", "listCopy", "(Ljava/util/Collection;)Ljava/util/List;"⟩ : MethodName)) (w75 hw) (w76 hw) (w77 hw) (w78 hw) (by decide) (argsL := [(.ref a1)]) (CtrN.back (Wd := 0) W0 (rm7 l Z a0 hw gO3 a1 h0 W0.old E_a1 F_a1_size SgO3_EMPTY_LIST) (w78 hw) (w77 hw) (by decide) (by decide)) (by rw [hml]; rfl) (lenOf pd4 rfl) (S := []) rfl (by exact Nat.le_of_eq rfl) (pc' := 4) (hb hy d13_1) rfl (cells' := 0) (slots' := 0) rfl rfl (by decide) (by decide) (wy := []) (fun _ _ _ q => ⟨q.1, q.2.1⟩) all0 (fun _ _ => trivial) ?_
  intro v1 T1 h1 lo1 W1 K1 q1
  obtain rfl := q1.2.2
  show Gl _ _ _ _ _ _ _ _ [(.ref gO3)]
  exact o_retA W1 hlk (v := (.ref gO3)) hret rfl rfl (hb hy d13_4) (by decide) (by decide) rfl
theorem rm9 (l : Launch) (Z : State) (a0 : Array Value) (hw : ∀ d ∈ tables_1, d.before a0 Z = true) (gO3 a1 a2 a3 a4 : Addr) (h0 : Heap) (O0 : Old Z Z.heap.size h0) (E_a3 : Exa Z h0 a3 "java/util/ArrayList") (F_a3_size : Fld Z h0 a3 "java/util/ArrayList" "size" "I" (.int 0)) (SgO3_EMPTY_LIST : Sta Z Z.heap "java/util/ImmutableCollections" "EMPTY_LIST" "Ljava/util/ImmutableCollections$ListN;" (.ref gO3)) (E_a4 : Exa Z h0 a4 "java/util/ArrayList") (F_a4_size : Fld Z h0 a4 "java/util/ArrayList" "size" "I" (.int 0)) (E_a1 : Exa Z h0 a1 "com/example/sessn/sessn/log/LoggedQuery") (F_a1_text : Fld Z h0 a1 "com/example/sessn/sessn/log/LoggedQuery" "text" "Ljava/lang/String;" .null) (g_a1 : Z.heap.size ≤ a1) (F_a1_time : Fld Z h0 a1 "com/example/sessn/sessn/log/LoggedQuery" "time" "Ljava/time/LocalDateTime;" .null) (F_a1_results : Fld Z h0 a1 "com/example/sessn/sessn/log/LoggedQuery" "results" "Ljava/util/List;" .null) (F_a1_clicks : Fld Z h0 a1 "com/example/sessn/sessn/log/LoggedQuery" "clicks" "Ljava/util/List;" .null) :
    CtrN l Z (⟨"com/example/sessn/sessn/log/LoggedQuery", "<init>", "(Ljava/lang/String;Ljava/time/LocalDateTime;Ljava/util/List;Ljava/util/List;)V"⟩ : MethodName) prog_19_method_1_code 5 none [] (⟨3, 0, 0, 37⟩ : Room) #[(.ref a1), (.ref a2), .null, (.ref a3), (.ref a4)] h0 [a1] (fun v h => Fld Z h a1 "com/example/sessn/sessn/log/LoggedQuery" "text" "Ljava/lang/String;" (.ref a2) ∧ Fld Z h a1 "com/example/sessn/sessn/log/LoggedQuery" "time" "Ljava/time/LocalDateTime;" .null ∧ Fld Z h a1 "com/example/sessn/sessn/log/LoggedQuery" "results" "Ljava/util/List;" (.ref gO3) ∧ Fld Z h a1 "com/example/sessn/sessn/log/LoggedQuery" "clicks" "Ljava/util/List;" (.ref gO3) ∧ v = none) := by
  refine CtrN.intro (L0 := #[.val (.ref a1), .val (.ref a2), .val .null, .val (.ref a3), .val (.ref a4)]) (plainFor_of_name pn6) O0 (own_entry rfl) ?_
  intro p e s m below meth c T0 hy hml hret hlk hnm W0
  refine o_aloadN W0 (pc' := 1) (hb hy d11_0) rfl rfl rfl ?_
  refine o_special W0 (y := (⟨"java/lang/Record", "<init>", "()V"⟩ : MethodName)) rfl (w65 hw) (w66 hw) (w69 hw) (by decide) (a := a1) (argsL := []) (CtrN.back (Wd := 0) W0 (rm4 l Z a0 hw a1 h0 W0.old ) (w69 hw) (w68 hw) (by decide) (by decide)) (by rw [hml]; rfl) (lenOf pd1 rfl) (S := []) rfl (by exact Nat.le_of_eq rfl) (pc' := 4) (hb hy d11_1) rfl (cells' := 0) (slots' := 0) rfl rfl (by decide) (by decide) (wy := []) (fun _ _ _ q => ⟨q.1, q.2.1⟩) all0 (fun _ _ => trivial) ?_
  intro v1 T1 h1 lo1 W1 K1 q1
  obtain rfl := q1.2.2
  show Gl _ _ _ _ _ _ _ _ []
  refine o_aloadN W1 (pc' := 5) (hb hy d11_4) rfl rfl rfl ?_
  have c2 := (E_a3.keep K1)
  have c3 := (F_a3_size.keep K1 nin0)
  refine o_static W1 (y := (⟨"java/util/List", "copyOf", "(Ljava/util/Collection;)Ljava/util/List;"⟩ : MethodName)) (w71 hw) (w72 hw) (w73 hw) (w74 hw) (by decide) (argsL := [(.ref a3)]) (CtrN.back (Wd := 0) W1 (rm8 l Z a0 hw gO3 a3 h1 W1.old c2 c3 SgO3_EMPTY_LIST) (w74 hw) (w73 hw) (by decide) (by decide)) (by rw [hml]; rfl) (lenOf pd4 rfl) (S := []) rfl (by exact Nat.le_of_eq rfl) (pc' := 8) (hb hy d11_5) rfl (cells' := 0) (slots' := 0) rfl rfl (by decide) (by decide) (wy := []) (fun _ _ _ q => ⟨q.1, q.2.1⟩) all0 (fun _ _ => trivial) ?_
  intro v4 T4 h4 lo4 W4 K4 q4
  obtain rfl := q4.2.2
  show Gl _ _ _ _ _ _ _ _ [(.ref gO3)]
  refine o_astoreN W4 (L' := #[.val (.ref a1), .val (.ref a2), .val .null, .val (.ref gO3), .val (.ref a4)]) (pc' := 9) (hb hy d11_8) rfl rfl rfl ?_
  refine o_aload W4 (pc' := 11) (hb hy d11_9) rfl rfl rfl ?_
  have c5 := ((E_a4.keep K1).keep K4)
  have c6 := ((F_a4_size.keep K1 nin0).keep K4 nin0)
  refine o_static W4 (y := (⟨"java/util/List", "copyOf", "(Ljava/util/Collection;)Ljava/util/List;"⟩ : MethodName)) (w71 hw) (w72 hw) (w73 hw) (w74 hw) (by decide) (argsL := [(.ref a4)]) (CtrN.back (Wd := 0) W4 (rm8 l Z a0 hw gO3 a4 h4 W4.old c5 c6 SgO3_EMPTY_LIST) (w74 hw) (w73 hw) (by decide) (by decide)) (by rw [hml]; rfl) (lenOf pd4 rfl) (S := []) rfl (by exact Nat.le_of_eq rfl) (pc' := 14) (hb hy d11_11) rfl (cells' := 0) (slots' := 0) rfl rfl (by decide) (by decide) (wy := []) (fun _ _ _ q => ⟨q.1, q.2.1⟩) all0 (fun _ _ => trivial) ?_
  intro v7 T7 h7 lo7 W7 K7 q7
  obtain rfl := q7.2.2
  show Gl _ _ _ _ _ _ _ _ [(.ref gO3)]
  refine o_astore W7 (L' := #[.val (.ref a1), .val (.ref a2), .val .null, .val (.ref gO3), .val (.ref gO3)]) (pc' := 16) (hb hy d11_14) rfl rfl rfl ?_
  refine o_aloadN W7 (pc' := 17) (hb hy d11_16) rfl rfl rfl ?_
  refine o_aloadN W7 (pc' := 18) (hb hy d11_17) rfl rfl rfl ?_
  have c8 := (((E_a1.keep K1).keep K4).keep K7)
  have c9 := (((F_a1_text.keep K1 nin0).keep K4 nin0).keep K7 nin0)
  refine o_putF W7 (w100 hw) Via.refl c9 c8 (Or.inr ⟨(w101 hw), rfl, hnm⟩) (w7 hw) (ty := (.object "java/lang/String")) (v' := (.ref a2)) (by decide) rfl rfl g_a1 (Or.inl (List.mem_of_getElem? (i := 0) rfl)) (fun _ _ => trivial) (pc' := 21) (hb hy d11_18) rfl ?_
  intro T10 h10 lo10 W10 R10
  have F10 := c9.same R10
  refine o_aloadN W10 (pc' := 22) (hb hy d11_21) rfl rfl rfl ?_
  refine o_aloadN W10 (pc' := 23) (hb hy d11_22) rfl rfl rfl ?_
  have c11 := (c8.wr R10)
  have c12 := ((((F_a1_time.keep K1 nin0).keep K4 nin0).keep K7 nin0).other R10 (Or.inr (slot_ne (Or.inr (w103 hw)) (Or.inr (w101 hw)) (by decide) (t := (.object "java/time/LocalDateTime")) (t' := (.object "java/lang/String")) (by decide) (by decide))))
  refine o_putF W10 (w102 hw) Via.refl c12 c11 (Or.inr ⟨(w103 hw), rfl, hnm⟩) (w7 hw) (ty := (.object "java/time/LocalDateTime")) (v' := .null) (by decide) rfl rfl g_a1 (Or.inl (List.mem_of_getElem? (i := 0) rfl)) (fun _ _ => trivial) (pc' := 26) (hb hy d11_23) rfl ?_
  intro T13 h13 lo13 W13 R13
  have F13 := c12.same R13
  refine o_aloadN W13 (pc' := 27) (hb hy d11_26) rfl rfl rfl ?_
  refine o_aloadN W13 (pc' := 28) (hb hy d11_27) rfl rfl rfl ?_
  have c14 := (c11.wr R13)
  have c15 := (((((F_a1_results.keep K1 nin0).keep K4 nin0).keep K7 nin0).other R10 (Or.inr (slot_ne (Or.inr (w105 hw)) (Or.inr (w101 hw)) (by decide) (t := (.object "java/util/List")) (t' := (.object "java/lang/String")) (by decide) (by decide)))).other R13 (Or.inr (slot_ne (Or.inr (w105 hw)) (Or.inr (w103 hw)) (by decide) (t := (.object "java/util/List")) (t' := (.object "java/time/LocalDateTime")) (by decide) (by decide))))
  refine o_putF W13 (w104 hw) Via.refl c15 c14 (Or.inr ⟨(w105 hw), rfl, hnm⟩) (w7 hw) (ty := (.object "java/util/List")) (v' := (.ref gO3)) (by decide) rfl rfl g_a1 (Or.inl (List.mem_of_getElem? (i := 0) rfl)) (fun _ _ => trivial) (pc' := 31) (hb hy d11_28) rfl ?_
  intro T16 h16 lo16 W16 R16
  have F16 := c15.same R16
  refine o_aloadN W16 (pc' := 32) (hb hy d11_31) rfl rfl rfl ?_
  refine o_aload W16 (pc' := 34) (hb hy d11_32) rfl rfl rfl ?_
  have c17 := (c14.wr R16)
  have c18 := ((((((F_a1_clicks.keep K1 nin0).keep K4 nin0).keep K7 nin0).other R10 (Or.inr (slot_ne (Or.inr (w107 hw)) (Or.inr (w101 hw)) (by decide) (t := (.object "java/util/List")) (t' := (.object "java/lang/String")) (by decide) (by decide)))).other R13 (Or.inr (slot_ne (Or.inr (w107 hw)) (Or.inr (w103 hw)) (by decide) (t := (.object "java/util/List")) (t' := (.object "java/time/LocalDateTime")) (by decide) (by decide)))).other R16 (Or.inr (slot_ne (Or.inr (w107 hw)) (Or.inr (w105 hw)) (by decide) (t := (.object "java/util/List")) (t' := (.object "java/util/List")) (by decide) (by decide))))
  refine o_putF W16 (w106 hw) Via.refl c18 c17 (Or.inr ⟨(w107 hw), rfl, hnm⟩) (w7 hw) (ty := (.object "java/util/List")) (v' := (.ref gO3)) (by decide) rfl rfl g_a1 (Or.inl (List.mem_of_getElem? (i := 0) rfl)) (fun _ _ => trivial) (pc' := 37) (hb hy d11_34) rfl ?_
  intro T19 h19 lo19 W19 R19
  have F19 := c18.same R19
  have c20 := (((F10.other R13 (Or.inr (slot_ne (Or.inr (w101 hw)) (Or.inr (w103 hw)) (by decide) (t := (.object "java/lang/String")) (t' := (.object "java/time/LocalDateTime")) (by decide) (by decide)))).other R16 (Or.inr (slot_ne (Or.inr (w101 hw)) (Or.inr (w105 hw)) (by decide) (t := (.object "java/lang/String")) (t' := (.object "java/util/List")) (by decide) (by decide)))).other R19 (Or.inr (slot_ne (Or.inr (w101 hw)) (Or.inr (w107 hw)) (by decide) (t := (.object "java/lang/String")) (t' := (.object "java/util/List")) (by decide) (by decide))))
  have c21 := ((F13.other R16 (Or.inr (slot_ne (Or.inr (w103 hw)) (Or.inr (w105 hw)) (by decide) (t := (.object "java/time/LocalDateTime")) (t' := (.object "java/util/List")) (by decide) (by decide)))).other R19 (Or.inr (slot_ne (Or.inr (w103 hw)) (Or.inr (w107 hw)) (by decide) (t := (.object "java/time/LocalDateTime")) (t' := (.object "java/util/List")) (by decide) (by decide))))
  have c22 := (F16.other R19 (Or.inr (slot_ne (Or.inr (w105 hw)) (Or.inr (w107 hw)) (by decide) (t := (.object "java/util/List")) (t' := (.object "java/util/List")) (by decide) (by decide))))
  have c23 := (c17.wr R19)
  exact o_ret0 W19 hlk hret (hb hy d11_37) (by decide) (by decide) ⟨c20, c21, c22, F19, rfl⟩
theorem rm10 (l : Launch) (Z : State) (a0 : Array Value) (hw : ∀ d ∈ tables_1, d.before a0 Z = true) (gCS : Int32) (gO2 gO3 : Addr) (x1 : Int32) (h0 : Heap) (O0 : Old Z Z.heap.size h0) (SgCS : Sta Z Z.heap "java/lang/String" "COMPACT_STRINGS" "Z" (.int gCS)) (NgCS : ¬ (gCS = (0 : Int32))) (SgO2_DEFAULTCAPACITY_EMPTY_ELEMENTDATA : Sta Z Z.heap "java/util/ArrayList" "DEFAULTCAPACITY_EMPTY_ELEMENTDATA" "[Ljava/lang/Object;" (.ref gO2)) (SgO3_EMPTY_LIST : Sta Z Z.heap "java/util/ImmutableCollections" "EMPTY_LIST" "Ljava/util/ImmutableCollections$ListN;" (.ref gO3)) :
    CtrN l Z (⟨"com/example/sessn/sessn/log/LoggedSessionCurrentPinLaw", "query", "(I)Lcom/example/sessn/sessn/log/LoggedQuery;"⟩ : MethodName) method_3_code 2 (some (.object "com/example/sessn/sessn/log/LoggedQuery")) [] (⟨4, 6, 18, 68⟩ : Room) #[(.int x1)] h0 [] (fun v h => ∃ r1 : Addr, ∃ r2 : Addr, ∃ r3 : Addr, ∃ r4 : ClassId, h0.size ≤ r1 ∧ h0.size ≤ r2 ∧ h0.size ≤ r3 ∧ Exa Z h r1 "com/example/sessn/sessn/log/LoggedQuery" ∧ Fld Z h r1 "com/example/sessn/sessn/log/LoggedQuery" "text" "Ljava/lang/String;" (.ref r2) ∧ Fld Z h r1 "com/example/sessn/sessn/log/LoggedQuery" "time" "Ljava/time/LocalDateTime;" .null ∧ Fld Z h r1 "com/example/sessn/sessn/log/LoggedQuery" "results" "Ljava/util/List;" (.ref gO3) ∧ Fld Z h r1 "com/example/sessn/sessn/log/LoggedQuery" "clicks" "Ljava/util/List;" (.ref gO3) ∧ Exa Z h r2 "java/lang/String" ∧ Fld Z h r2 "java/lang/String" "coder" "B" (.int 0) ∧ Fld Z h r2 "java/lang/String" "value" "[B" (.ref r3) ∧ Arv Z h r3 r4 .byte (2 : Int32) [(.int (StrChars.lo8 (x1 &&& (255 : Int32)))), (.int (StrChars.lo8 (((x1.toUInt32 >>> ((8 : Int32) &&& 31).toUInt32).toInt32) &&& (255 : Int32))))] (.int 0) ∧ v = some (.ref r1)) := by
  refine CtrN.intro (L0 := #[.val (.int x1), .unset]) (plainFor_of_name pn7) O0 (own_entry rfl) ?_
  intro p e s m below meth c T0 hy hml hret hlk hnm W0
  refine o_iconst W0 (v := 2) (pc' := 1) (hb hy d1_0) rfl rfl ?_
  refine o_newP W0 (aty := .char) (w5 hw) (fun _ _ => trivial) (by decide) (cap := 2) (by decide) (by decide) (pc' := 3) (hb hy d1_1) rfl (cells' := 1) (slots' := 2) rfl rfl (by decide) (by decide) (vs := [(.int 0), (.int 0)]) (dv := (.int 0)) rfl rfl ?_
  intro b1 T1 h1 k1 W1 E1 ge1 gz1 gb1 V1
  refine o_astoreN W1 (L' := #[.val (.int x1), .val (.ref b1)]) (pc' := 4) (hb hy d1_3) rfl rfl rfl ?_
  refine o_aloadN W1 (pc' := 5) (hb hy d1_4) rfl rfl rfl ?_
  refine o_iconst W1 (v := 0) (pc' := 6) (hb hy d1_5) rfl rfl ?_
  refine o_iloadN W1 (pc' := 7) (hb hy d1_6) rfl rfl ?_
  refine o_sipush W1 (v := 255) (pc' := 10) (hb hy d1_7) (by decide) rfl ?_
  refine o_iand W1 (v := (x1 &&& (255 : Int32))) (pc' := 11) (hb hy d1_10) rfl rfl ?_
  refine o_i2c W1 (v := (x1 &&& (255 : Int32))) (pc' := 12) (hb hy d1_11) (own_i2c (own_b255 _)) rfl ?_
  refine o_stC W1 V1 (i := 0) (x' := (x1 &&& (255 : Int32))) (by decide) (by decide) (by decide) (Nat.lt_of_sub_eq_succ rfl) (own_i2c (own_b255 _)) (vs' := [(.int (x1 &&& (255 : Int32))), (.int 0)]) rfl gz1 (Or.inr gb1) (fun _ _ => trivial) (pc' := 13) (hb hy d1_12) rfl ?_
  intro T2 h2 lo2 W2 R2 V2
  refine o_aloadN W2 (pc' := 14) (hb hy d1_13) rfl rfl rfl ?_
  refine o_iconst W2 (v := 1) (pc' := 15) (hb hy d1_14) rfl rfl ?_
  refine o_iloadN W2 (pc' := 16) (hb hy d1_15) rfl rfl ?_
  refine o_bipush W2 (v := 8) (pc' := 18) (hb hy d1_16) (by decide) rfl ?_
  refine o_iushr W2 (v := ((x1.toUInt32 >>> ((8 : Int32) &&& 31).toUInt32).toInt32)) (pc' := 19) (hb hy d1_18) rfl rfl ?_
  refine o_sipush W2 (v := 255) (pc' := 22) (hb hy d1_19) (by decide) rfl ?_
  refine o_iand W2 (v := (((x1.toUInt32 >>> ((8 : Int32) &&& 31).toUInt32).toInt32) &&& (255 : Int32))) (pc' := 23) (hb hy d1_22) rfl rfl ?_
  refine o_i2c W2 (v := (((x1.toUInt32 >>> ((8 : Int32) &&& 31).toUInt32).toInt32) &&& (255 : Int32))) (pc' := 24) (hb hy d1_23) (own_i2c (own_b255 _)) rfl ?_
  refine o_stC W2 V2 (i := 1) (x' := (((x1.toUInt32 >>> ((8 : Int32) &&& 31).toUInt32).toInt32) &&& (255 : Int32))) (by decide) (by decide) (by decide) (Nat.lt_of_sub_eq_succ rfl) (own_i2c (own_b255 _)) (vs' := [(.int (x1 &&& (255 : Int32))), (.int (((x1.toUInt32 >>> ((8 : Int32) &&& 31).toUInt32).toInt32) &&& (255 : Int32)))]) rfl gz1 (Or.inr gb1) (fun _ _ => trivial) (pc' := 25) (hb hy d1_24) rfl ?_
  intro T3 h3 lo3 W3 R3 V3
  refine o_new W3 (w6 hw) (w7 hw) (w8 hw) (fun _ _ => trivial) (pc' := 28) (hb hy d1_25) rfl (cells' := 2) (slots' := 6) rfl rfl (by decide) (by decide) ?_
  intro b4 T4 h4 W4 E4 ge4 gz4 gb4 A4 D4
  have Fb4_text : Fld Z h4 b4 "com/example/sessn/sessn/log/LoggedQuery" "text" "Ljava/lang/String;" .null := D4 (Or.inr (w101 hw)) (ty := (.object "java/lang/String")) (by decide)
  have Fb4_time : Fld Z h4 b4 "com/example/sessn/sessn/log/LoggedQuery" "time" "Ljava/time/LocalDateTime;" .null := D4 (Or.inr (w103 hw)) (ty := (.object "java/time/LocalDateTime")) (by decide)
  have Fb4_results : Fld Z h4 b4 "com/example/sessn/sessn/log/LoggedQuery" "results" "Ljava/util/List;" .null := D4 (Or.inr (w105 hw)) (ty := (.object "java/util/List")) (by decide)
  have Fb4_clicks : Fld Z h4 b4 "com/example/sessn/sessn/log/LoggedQuery" "clicks" "Ljava/util/List;" .null := D4 (Or.inr (w107 hw)) (ty := (.object "java/util/List")) (by decide)
  refine o_dup W4 (pc' := 29) (hb hy d1_28) rfl rfl ?_
  refine o_new W4 (w9 hw) (w10 hw) (w11 hw) (fun _ _ => trivial) (pc' := 32) (hb hy d1_29) rfl (cells' := 3) (slots' := 10) rfl rfl (by decide) (by decide) ?_
  intro b5 T5 h5 W5 E5 ge5 gz5 gb5 A5 D5
  have Fb5_coder : Fld Z h5 b5 "java/lang/String" "coder" "B" (.int 0) := D5 (Or.inr (w35 hw)) (ty := .byte) (by decide)
  have Fb5_value : Fld Z h5 b5 "java/lang/String" "value" "[B" .null := D5 (Or.inr (w37 hw)) (ty := (.array .byte)) (by decide)
  refine o_dup W5 (pc' := 33) (hb hy d1_32) rfl rfl ?_
  refine o_aloadN W5 (pc' := 34) (hb hy d1_33) rfl rfl rfl ?_
  have c6 := ((V3.ext E4).ext E5)
  have ok7 : own_ok [(x1 &&& (255 : Int32)), (((x1.toUInt32 >>> ((8 : Int32) &&& 31).toUInt32).toInt32) &&& (255 : Int32))] := ⟨by simp only [List.mem_cons, List.not_mem_nil, or_false, forall_eq_or_imp, forall_eq, false_imp_iff, implies_true]; exact ⟨(own_b255 _), (own_b255 _)⟩, Nat.le_of_ble_eq_true rfl⟩
  refine o_special W5 (y := (⟨"java/lang/String", "<init>", "([C)V"⟩ : MethodName)) rfl (w12 hw) (w13 hw) (w14 hw) (by decide) (a := b5) (argsL := [(.ref b1)]) (StrChars.Road.backV (W := 3) W5.2.2.2.1 (own_hV hw) (kI := 4) (w10 hw) (cs := [(x1 &&& (255 : Int32)), (((x1.toUInt32 >>> ((8 : Int32) &&& 31).toUInt32).toInt32) &&& (255 : Int32))]) (bs := [((x1 &&& (255 : Int32))).toInt8.toInt32, ((((x1.toUInt32 >>> ((8 : Int32) &&& 31).toUInt32).toInt32) &&& (255 : Int32))).toInt8.toInt32]) (n := 2) (n0 := Z.heap.size) gz5 W5.zs A5 Fb5_value Fb5_coder c6 (SgCS.ext W5.ox) NgCS rfl rfl (by decide) (by decide) ok7.1 rfl (by decide) (by decide)) (by rw [hml]; rfl) (lenOf pd0 rfl) (S := [(.ref b5), (.ref b4), (.ref b4)]) rfl (by exact Nat.le_of_eq rfl) (pc' := 37) (hb hy d1_34) rfl (cells' := 4) (slots' := 12) rfl rfl (by decide) (by decide) (wy := [b5]) (fun _ _ _ q => ⟨q.2.1, q.2.2.1⟩) (allS ⟨gz5, (Or.inr gb5)⟩ all0) (fun _ _ => trivial) ?_
  intro v8 T8 h8 lo8 W8 K8 q8
  obtain ⟨rfl, -, -, X8, Fc8, t8, kb8, gz8, ge8, -, Fv8, A8⟩ := q8
  have B8 : Arv Z h8 t8 kb8 .byte (2 : Int32) [(.int (StrChars.lo8 (x1 &&& (255 : Int32)))), (.int (StrChars.lo8 (((x1.toUInt32 >>> ((8 : Int32) &&& 31).toUInt32).toInt32) &&& (255 : Int32))))] (.int 0) := A8
  show Gl _ _ _ _ _ _ _ _ [(.ref b5), (.ref b4), (.ref b4)]
  refine o_aconstNull W8 (pc' := 38) (hb hy d1_37) rfl ?_
  refine o_new W8 (w38 hw) (w39 hw) (w40 hw) (fun _ _ => trivial) (pc' := 41) (hb hy d1_38) rfl (cells' := 5) (slots' := 15) rfl rfl (by decide) (by decide) ?_
  intro b9 T9 h9 W9 E9 ge9 gz9 gb9 A9 D9
  have Fb9_modCount : Fld Z h9 b9 "java/util/AbstractList" "modCount" "I" (.int 0) := D9 (Or.inl (w58 hw)) (ty := .int) (by decide)
  have Fb9_elementData : Fld Z h9 b9 "java/util/ArrayList" "elementData" "[Ljava/lang/Object;" .null := D9 (Or.inl (w61 hw)) (ty := (.array (.object "java/lang/Object"))) (by decide)
  have Fb9_size : Fld Z h9 b9 "java/util/ArrayList" "size" "I" (.int 0) := D9 (Or.inl (w95 hw)) (ty := .int) (by decide)
  refine o_dup W9 (pc' := 42) (hb hy d1_41) rfl rfl ?_
  refine o_special W9 (y := (⟨"java/util/ArrayList", "<init>", "()V"⟩ : MethodName)) rfl (w41 hw) (w42 hw) (w43 hw) (by decide) (a := b9) (argsL := []) (CtrN.back (Wd := 5) W9 (rm3 l Z a0 hw gO2 b9 h9 W9.old A9 Fb9_modCount Fb9_elementData Fb9_size gz9 SgO2_DEFAULTCAPACITY_EMPTY_ELEMENTDATA) (w43 hw) (w40 hw) (by decide) (by decide)) (by rw [hml]; rfl) (lenOf pd1 rfl) (S := [(.ref b9), .null, (.ref b5), (.ref b4), (.ref b4)]) rfl (by exact Nat.le_of_eq rfl) (pc' := 45) (hb hy d1_42) rfl (cells' := 5) (slots' := 15) rfl rfl (by decide) (by decide) (wy := [b9]) (fun _ _ _ q => ⟨q.1, q.2.1⟩) (allS ⟨gz9, (Or.inr gb9)⟩ all0) (fun _ _ => trivial) ?_
  intro v10 T10 h10 lo10 W10 K10 q10
  obtain ⟨P10_0, P10_1, P10_2, rfl⟩ := q10.2.2
  show Gl _ _ _ _ _ _ _ _ [(.ref b9), .null, (.ref b5), (.ref b4), (.ref b4)]
  refine o_new W10 (w38 hw) (w39 hw) (w40 hw) (fun _ _ => trivial) (pc' := 48) (hb hy d1_45) rfl (cells' := 6) (slots' := 18) rfl rfl (by decide) (by decide) ?_
  intro b11 T11 h11 W11 E11 ge11 gz11 gb11 A11 D11
  have Fb11_modCount : Fld Z h11 b11 "java/util/AbstractList" "modCount" "I" (.int 0) := D11 (Or.inl (w58 hw)) (ty := .int) (by decide)
  have Fb11_elementData : Fld Z h11 b11 "java/util/ArrayList" "elementData" "[Ljava/lang/Object;" .null := D11 (Or.inl (w61 hw)) (ty := (.array (.object "java/lang/Object"))) (by decide)
  have Fb11_size : Fld Z h11 b11 "java/util/ArrayList" "size" "I" (.int 0) := D11 (Or.inl (w95 hw)) (ty := .int) (by decide)
  refine o_dup W11 (pc' := 49) (hb hy d1_48) rfl rfl ?_
  refine o_special W11 (y := (⟨"java/util/ArrayList", "<init>", "()V"⟩ : MethodName)) rfl (w41 hw) (w42 hw) (w43 hw) (by decide) (a := b11) (argsL := []) (CtrN.back (Wd := 6) W11 (rm3 l Z a0 hw gO2 b11 h11 W11.old A11 Fb11_modCount Fb11_elementData Fb11_size gz11 SgO2_DEFAULTCAPACITY_EMPTY_ELEMENTDATA) (w43 hw) (w40 hw) (by decide) (by decide)) (by rw [hml]; rfl) (lenOf pd1 rfl) (S := [(.ref b11), (.ref b9), .null, (.ref b5), (.ref b4), (.ref b4)]) rfl (by exact Nat.le_of_eq rfl) (pc' := 52) (hb hy d1_49) rfl (cells' := 6) (slots' := 18) rfl rfl (by decide) (by decide) (wy := [b11]) (fun _ _ _ q => ⟨q.1, q.2.1⟩) (allS ⟨gz11, (Or.inr gb11)⟩ all0) (fun _ _ => trivial) ?_
  intro v12 T12 h12 lo12 W12 K12 q12
  obtain ⟨P12_0, P12_1, P12_2, rfl⟩ := q12.2.2
  show Gl _ _ _ _ _ _ _ _ [(.ref b11), (.ref b9), .null, (.ref b5), (.ref b4), (.ref b4)]
  have c13 := (A9.keep K10)
  have c14 := ((P10_2.ext E11).keep K12 (ninS (own_ne c13.lt ge11) nin0))
  have c15 := ((A4.ext E5).keep K8)
  have c16 := ((c15.ext E9).keep K10)
  have c17 := ((((((Fb4_text.ext E5).keep K8 (ninS (own_ne A4.lt ge5) nin0)).ext E9).keep K10 (ninS (own_ne c15.lt ge9) nin0)).ext E11).keep K12 (ninS (own_ne c16.lt ge11) nin0))
  have c18 := ((((((Fb4_time.ext E5).keep K8 (ninS (own_ne A4.lt ge5) nin0)).ext E9).keep K10 (ninS (own_ne c15.lt ge9) nin0)).ext E11).keep K12 (ninS (own_ne c16.lt ge11) nin0))
  have c19 := ((((((Fb4_results.ext E5).keep K8 (ninS (own_ne A4.lt ge5) nin0)).ext E9).keep K10 (ninS (own_ne c15.lt ge9) nin0)).ext E11).keep K12 (ninS (own_ne c16.lt ge11) nin0))
  have c20 := ((((((Fb4_clicks.ext E5).keep K8 (ninS (own_ne A4.lt ge5) nin0)).ext E9).keep K10 (ninS (own_ne c15.lt ge9) nin0)).ext E11).keep K12 (ninS (own_ne c16.lt ge11) nin0))
  have c21 := ((c13.ext E11).keep K12)
  have c22 := (A11.keep K12)
  have c23 := ((c16.ext E11).keep K12)
  refine o_special W12 (y := (⟨"com/example/sessn/sessn/log/LoggedQuery", "<init>", "(Ljava/lang/String;Ljava/time/LocalDateTime;Ljava/util/List;Ljava/util/List;)V"⟩ : MethodName)) rfl (w62 hw) (w63 hw) (w64 hw) (by decide) (a := b4) (argsL := [(.ref b5), .null, (.ref b9), (.ref b11)]) (CtrN.back (Wd := 1) W12 (rm9 l Z a0 hw gO3 b4 b5 b9 b11 h12 W12.old c21 c14 SgO3_EMPTY_LIST c22 P12_2 c23 c17 gz4 c18 c19 c20) (w64 hw) (w8 hw) (by decide) (by decide)) (by rw [hml]; rfl) (lenOf pd5 rfl) (S := [(.ref b4)]) rfl (by exact Nat.le_of_eq rfl) (pc' := 55) (hb hy d1_52) rfl (cells' := 6) (slots' := 18) rfl rfl (by decide) (by decide) (wy := [b4]) (fun _ _ _ q => ⟨q.1, q.2.1⟩) (allS ⟨gz4, (Or.inr gb4)⟩ all0) (fun _ _ => trivial) ?_
  intro v24 T24 h24 lo24 W24 K24 q24
  obtain ⟨P24_0, P24_1, P24_2, P24_3, rfl⟩ := q24.2.2
  show Gl _ _ _ _ _ _ _ _ [(.ref b4)]
  have c25 := (c23.keep K24)
  have c26 := (((((X8.ext E9).keep K10).ext E11).keep K12).keep K24)
  have c27 := ((X8.ext E9).keep K10)
  have c28 := (((((Fc8.ext E9).keep K10 (ninS (own_ne X8.lt ge9) nin0)).ext E11).keep K12 (ninS (own_ne c27.lt ge11) nin0)).keep K24 (ninS (own_ne' A4.lt ge5) nin0))
  have c29 := (((((Fv8.ext E9).keep K10 (ninS (own_ne X8.lt ge9) nin0)).ext E11).keep K12 (ninS (own_ne c27.lt ge11) nin0)).keep K24 (ninS (own_ne' A4.lt ge5) nin0))
  have c30 := ((B8.ext E9).keep K10 (ninS (own_ne B8.lt ge9) nin0))
  have c31 := (A4.ext E5)
  have c32 := (((((B8.ext E9).keep K10 (ninS (own_ne B8.lt ge9) nin0)).ext E11).keep K12 (ninS (own_ne c30.lt ge11) nin0)).keep K24 (ninS (own_ne' c31.lt ge8) nin0))
  exact o_retA W24 hlk (v := (.ref b4)) hret rfl rfl (hb hy d1_55) (by decide) (by decide) ⟨b4, b5, t8, kb8, gb4, gb5, (Nat.le_trans W5.keep.1 ge8), c25, P24_0, P24_1, P24_2, P24_3, c26, c28, c29, c32, rfl⟩
theorem rm11 (l : Launch) (Z : State) (a0 : Array Value) (hw : ∀ d ∈ tables_1, d.before a0 Z = true)  (h0 : Heap) (O0 : Old Z Z.heap.size h0) :
    CtrN l Z (⟨"java/lang/Math", "max", "(II)I"⟩ : MethodName) jdk_29_method_65_code 2 (some .int) [] (⟨0, 0, 0, 0⟩ : Room) #[(.int 10), (.int 1)] h0 [] (fun v h => v = some (.int 10)) := by
  refine CtrN.intro (L0 := #[.val (.int 10), .val (.int 1)]) (Jvm.Free.JP.mathPlain rfl (by decide +kernel)) O0 (own_entry rfl) ?_
  intro p e s m below meth c T0 hy hml hret hlk hnm W0
  refine o_iloadN W0 (pc' := 1) (hb hy d21_0) rfl rfl ?_
  refine o_iloadN W0 (pc' := 2) (hb hy d21_1) rfl rfl ?_
  refine o_icmpN W0 (pc' := 5) (hb hy d21_2) (XT.ii_lt_f (by decide)) rfl ?_
  refine o_iloadN W0 (pc' := 6) (hb hy d21_5) rfl rfl ?_
  refine o_goto W0 (pc' := 10) (hb hy d21_6) (by decide) rfl ?_
  exact o_retI W0 hlk hret (hb hy d21_10) (by decide) (by decide) rfl
theorem rm12 (l : Launch) (Z : State) (a0 : Array Value) (hw : ∀ d ∈ tables_1, d.before a0 Z = true) (gO2 : Addr) (k_gO2 : ClassId) (a1 : Addr) (h0 : Heap) (O0 : Old Z Z.heap.size h0) (F_a1_elementData : Fld Z h0 a1 "java/util/ArrayList" "elementData" "[Ljava/lang/Object;" (.ref gO2)) (VgO2 : Arv Z Z.heap gO2 k_gO2 (.object "java/lang/Object") (0 : Int32) [] .null) (SgO2_DEFAULTCAPACITY_EMPTY_ELEMENTDATA : Sta Z Z.heap "java/util/ArrayList" "DEFAULTCAPACITY_EMPTY_ELEMENTDATA" "[Ljava/lang/Object;" (.ref gO2)) (E_a1 : Exa Z h0 a1 "java/util/ArrayList") (g_a1 : Z.heap.size ≤ a1) (F_a1_size : Fld Z h0 a1 "java/util/ArrayList" "size" "I" (.int 0)) (F_a1_modCount : Fld Z h0 a1 "java/util/AbstractList" "modCount" "I" (.int 1)) :
    CtrN l Z (⟨"java/util/ArrayList", "grow", "(I)[Ljava/lang/Object;"⟩ : MethodName) jdk_38_method_6_code 4 (some (.array (.object "java/lang/Object"))) [] (⟨1, 1, 10, 14⟩ : Room) #[(.ref a1), (.int 1)] h0 [a1] (fun v h => ∃ r1 : Addr, ∃ r2 : ClassId, h0.size ≤ r1 ∧ Fld Z h a1 "java/util/ArrayList" "elementData" "[Ljava/lang/Object;" (.ref r1) ∧ Fld Z h a1 "java/util/ArrayList" "size" "I" (.int 0) ∧ Fld Z h a1 "java/util/AbstractList" "modCount" "I" (.int 1) ∧ Arv Z h r1 r2 (.object "java/lang/Object") (10 : Int32) [.null, .null, .null, .null, .null, .null, .null, .null, .null, .null] .null ∧ Ovr Z r2 "java/lang/Object" ∧ Exa Z h r1 "[Ljava/lang/Object;" ∧ v = some (.ref r1)) := by
  refine CtrN.intro (L0 := #[.val (.ref a1), .val (.int 1), .unset, .unset]) (plainFor_of_name pn2) O0 (own_entry rfl) ?_
  intro p e s m below meth c T0 hy hml hret hlk hnm W0
  refine o_aloadN W0 (pc' := 1) (hb hy d20_0) rfl rfl rfl ?_
  refine o_getF W0 (w60 hw) Via.refl F_a1_elementData (pc' := 4) (hb hy d20_1) rfl ?_
  intro T1 W1
  refine o_len W1 (VgO2.ext W1.ox) (pc' := 5) (hb hy d20_4) rfl ?_
  refine o_istoreN W1 (L' := #[.val (.ref a1), .val (.int 1), .val (.int 0), .unset]) (pc' := 6) (hb hy d20_5) rfl rfl ?_
  refine o_iloadN W1 (pc' := 7) (hb hy d20_6) rfl rfl ?_
  refine o_ifN W1 (pc' := 10) (hb hy d20_7) (XT.i0_gt_f (by decide)) rfl ?_
  refine o_aloadN W1 (pc' := 11) (hb hy d20_10) rfl rfl rfl ?_
  refine o_getF W1 (w60 hw) Via.refl F_a1_elementData (pc' := 14) (hb hy d20_11) rfl ?_
  intro T2 W2
  refine o_getS W2 (w59 hw) Via.refl (SgO2_DEFAULTCAPACITY_EMPTY_ELEMENTDATA.ext W2.ox) (pc' := 17) (hb hy d20_14) rfl ?_
  intro T3 W3
  refine o_acmpY W3 (pc' := 45) (hb hy d20_17) rfl rfl (XT.aa_eq_t rfl) (by decide) rfl ?_
  refine o_aloadN W3 (pc' := 46) (hb hy d20_45) rfl rfl rfl ?_
  refine o_bipush W3 (v := 10) (pc' := 48) (hb hy d20_46) (by decide) rfl ?_
  refine o_iloadN W3 (pc' := 49) (hb hy d20_48) rfl rfl ?_
  refine o_static W3 (y := (⟨"java/lang/Math", "max", "(II)I"⟩ : MethodName)) (w130 hw) (w131 hw) (w132 hw) (w133 hw) (by decide) (argsL := [(.int 10), (.int 1)]) (CtrN.back (Wd := 1) W3 (rm11 l Z a0 hw  h0 W3.old ) (w133 hw) (w132 hw) (by decide) (by decide)) (by rw [hml]; rfl) (lenOf pd7 rfl) (S := [(.ref a1)]) rfl (by exact Nat.le_of_eq rfl) (pc' := 52) (hb hy d20_49) rfl (cells' := 0) (slots' := 0) rfl rfl (by decide) (by decide) (wy := []) (fun _ _ _ q => ⟨q.1, q.2.1⟩) all0 (fun _ _ => trivial) ?_
  intro v4 T4 h4 lo4 W4 K4 q4
  obtain rfl := q4.2.2
  show Gl _ _ _ _ _ _ _ _ [(.int 10), (.ref a1)]
  refine o_newRE W4 (w134 hw) (w135 hw) (fun _ _ => trivial) (ad := "[Ljava/lang/Object;") (by decide) (by decide) (cap := 10) (by decide) (by decide) (pc' := 55) (hb hy d20_52) rfl (cells' := 1) (slots' := 10) rfl rfl (by decide) (by decide) (vs := [.null, .null, .null, .null, .null, .null, .null, .null, .null, .null]) rfl ?_
  intro b5 T5 h5 k5 W5 E5 ge5 gz5 gb5 V5 O5 A5
  refine o_dupX1 W5 (pc' := 56) (hb hy d20_55) rfl rfl rfl ?_
  have c6 := ((E_a1.keep K4).ext E5)
  have c7 := ((F_a1_elementData.keep K4 nin0).ext E5)
  refine o_putF W5 (w60 hw) Via.refl c7 c6 (Or.inl (w61 hw)) (w39 hw) (ty := (.array (.object "java/lang/Object"))) (v' := (.ref b5)) (by decide) rfl rfl g_a1 (Or.inl (List.mem_of_getElem? (i := 0) rfl)) (fun _ _ => trivial) (pc' := 59) (hb hy d20_56) rfl ?_
  intro T8 h8 lo8 W8 R8
  have F8 := c7.same R8
  have c9 := (((F_a1_size.keep K4 nin0).ext E5).other R8 (Or.inr (slot_ne (Or.inl (w95 hw)) (Or.inl (w61 hw)) (by decide) (t := .int) (t' := (.array (.object "java/lang/Object"))) (by decide) (by decide))))
  have c10 := (((F_a1_modCount.keep K4 nin0).ext E5).other R8 (Or.inr (slot_ne (Or.inl (w58 hw)) (Or.inl (w61 hw)) (by decide) (t := .int) (t' := (.array (.object "java/lang/Object"))) (by decide) (by decide))))
  have c11 := (c6.wr R8)
  have c12 := (F_a1_elementData.keep K4 nin0)
  have c13 := (V5.other R8 (own_ne' c12.lt ge5))
  have c14 := (A5.wr R8)
  exact o_retA W8 hlk (v := (.ref b5)) hret rfl rfl (hb hy d20_59) (by decide) (by decide) ⟨b5, k5, gb5, F8, c9, c10, c13, O5, c14, rfl⟩
theorem rm13 (l : Launch) (Z : State) (a0 : Array Value) (hw : ∀ d ∈ tables_1, d.before a0 Z = true) (gO2 : Addr) (k_gO2 : ClassId) (a1 : Addr) (h0 : Heap) (O0 : Old Z Z.heap.size h0) (F_a1_size : Fld Z h0 a1 "java/util/ArrayList" "size" "I" (.int 0)) (E_a1 : Exa Z h0 a1 "java/util/ArrayList") (F_a1_elementData : Fld Z h0 a1 "java/util/ArrayList" "elementData" "[Ljava/lang/Object;" (.ref gO2)) (VgO2 : Arv Z Z.heap gO2 k_gO2 (.object "java/lang/Object") (0 : Int32) [] .null) (SgO2_DEFAULTCAPACITY_EMPTY_ELEMENTDATA : Sta Z Z.heap "java/util/ArrayList" "DEFAULTCAPACITY_EMPTY_ELEMENTDATA" "[Ljava/lang/Object;" (.ref gO2)) (F_a1_modCount : Fld Z h0 a1 "java/util/AbstractList" "modCount" "I" (.int 1)) (g_a1 : Z.heap.size ≤ a1) :
    CtrN l Z (⟨"java/util/ArrayList", "grow", "()[Ljava/lang/Object;"⟩ : MethodName) jdk_38_method_7_code 1 (some (.array (.object "java/lang/Object"))) [] (⟨2, 1, 10, 29⟩ : Room) #[(.ref a1)] h0 [a1] (fun v h => ∃ r1 : Addr, ∃ r2 : ClassId, h0.size ≤ r1 ∧ Fld Z h a1 "java/util/ArrayList" "size" "I" (.int 0) ∧ Fld Z h a1 "java/util/ArrayList" "elementData" "[Ljava/lang/Object;" (.ref r1) ∧ Fld Z h a1 "java/util/AbstractList" "modCount" "I" (.int 1) ∧ Arv Z h r1 r2 (.object "java/lang/Object") (10 : Int32) [.null, .null, .null, .null, .null, .null, .null, .null, .null, .null] .null ∧ Ovr Z r2 "java/lang/Object" ∧ Exa Z h r1 "[Ljava/lang/Object;" ∧ v = some (.ref r1)) := by
  refine CtrN.intro (L0 := #[.val (.ref a1)]) (plainFor_of_name pn2) O0 (own_entry rfl) ?_
  intro p e s m below meth c T0 hy hml hret hlk hnm W0
  refine o_aloadN W0 (pc' := 1) (hb hy d19_0) rfl rfl rfl ?_
  refine o_aloadN W0 (pc' := 2) (hb hy d19_1) rfl rfl rfl ?_
  refine o_getF W0 (w94 hw) Via.refl F_a1_size (pc' := 5) (hb hy d19_2) rfl ?_
  intro T1 W1
  refine o_iconst W1 (v := 1) (pc' := 6) (hb hy d19_5) rfl rfl ?_
  refine o_iadd W1 (v := 1) (pc' := 7) (hb hy d19_6) (by decide) rfl ?_
  refine o_private W1 (y := (⟨"java/util/ArrayList", "grow", "(I)[Ljava/lang/Object;"⟩ : MethodName)) (w125 hw) (w126 hw) (w128 hw) (w127 hw) (w129 hw) (by decide) E_a1 (argsL := [(.int 1)]) (CtrN.back (Wd := 0) W1 (rm12 l Z a0 hw gO2 k_gO2 a1 h0 W1.old F_a1_elementData VgO2 SgO2_DEFAULTCAPACITY_EMPTY_ELEMENTDATA E_a1 g_a1 F_a1_size F_a1_modCount) (w129 hw) (w40 hw) (by decide) (by decide)) (by rw [hml]; rfl) (lenOf pd8 rfl) (S := []) rfl (by exact Nat.le_of_eq rfl) (pc' := 10) (hb hy d19_7) rfl (cells' := 1) (slots' := 10) rfl rfl (by decide) (by decide) (wy := [a1]) (fun _ _ _ q => ⟨q.1, q.2.1⟩) (allS ⟨g_a1, (Or.inl (List.mem_of_getElem? (i := 0) rfl))⟩ all0) (fun _ _ => trivial) ?_
  intro v2 T2 h2 lo2 W2 K2 q2
  obtain ⟨r1_2, r2_2, P2_0, P2_1, P2_2, P2_3, P2_4, P2_5, P2_6, rfl⟩ := q2.2.2
  show Gl _ _ _ _ _ _ _ _ [(.ref r1_2)]
  have c3 := (E_a1.keep K2)
  exact o_retA W2 hlk (v := (.ref r1_2)) hret rfl rfl (hb hy d19_10) (by decide) (by decide) ⟨r1_2, r2_2, (Nat.le_trans W1.keep.1 P2_0), P2_2, P2_1, P2_3, P2_4, P2_5, P2_6, rfl⟩
theorem rm14 (l : Launch) (Z : State) (a0 : Array Value) (hw : ∀ d ∈ tables_1, d.before a0 Z = true) (gO2 : Addr) (k_gO2 : ClassId) (a1 a2 : Addr) (h0 : Heap) (O0 : Old Z Z.heap.size h0) (VgO2 : Arv Z Z.heap gO2 k_gO2 (.object "java/lang/Object") (0 : Int32) [] .null) (E_a1 : Exa Z h0 a1 "java/util/ArrayList") (F_a1_size : Fld Z h0 a1 "java/util/ArrayList" "size" "I" (.int 0)) (F_a1_elementData : Fld Z h0 a1 "java/util/ArrayList" "elementData" "[Ljava/lang/Object;" (.ref gO2)) (SgO2_DEFAULTCAPACITY_EMPTY_ELEMENTDATA : Sta Z Z.heap "java/util/ArrayList" "DEFAULTCAPACITY_EMPTY_ELEMENTDATA" "[Ljava/lang/Object;" (.ref gO2)) (F_a1_modCount : Fld Z h0 a1 "java/util/AbstractList" "modCount" "I" (.int 1)) (g_a1 : Z.heap.size ≤ a1) (E_a2 : Exa Z h0 a2 "com/example/sessn/sessn/log/LoggedQuery") :
    CtrN l Z (⟨"java/util/ArrayList", "add", "(Ljava/lang/Object;[Ljava/lang/Object;I)V"⟩ : MethodName) jdk_38_method_24_code 4 none [] (⟨3, 1, 10, 41⟩ : Room) #[(.ref a1), (.ref a2), (.ref gO2), (.int 0)] h0 [a1] (fun v h => ∃ r1 : Addr, ∃ r2 : ClassId, h0.size ≤ r1 ∧ Fld Z h a1 "java/util/ArrayList" "size" "I" (.int 1) ∧ Fld Z h a1 "java/util/ArrayList" "elementData" "[Ljava/lang/Object;" (.ref r1) ∧ Fld Z h a1 "java/util/AbstractList" "modCount" "I" (.int 1) ∧ Arv Z h r1 r2 (.object "java/lang/Object") (10 : Int32) [(.ref a2), .null, .null, .null, .null, .null, .null, .null, .null, .null] .null ∧ Ovr Z r2 "java/lang/Object" ∧ Exa Z h r1 "[Ljava/lang/Object;" ∧ v = none) := by
  refine CtrN.intro (L0 := #[.val (.ref a1), .val (.ref a2), .val (.ref gO2), .val (.int 0)]) (plainFor_of_name pn2) O0 (own_entry rfl) ?_
  intro p e s m below meth c T0 hy hml hret hlk hnm W0
  refine o_iloadN W0 (pc' := 1) (hb hy d18_0) rfl rfl ?_
  refine o_aloadN W0 (pc' := 2) (hb hy d18_1) rfl rfl rfl ?_
  refine o_len W0 (VgO2.ext W0.ox) (pc' := 3) (hb hy d18_2) rfl ?_
  refine o_icmpN W0 (pc' := 6) (hb hy d18_3) (XT.ii_ne_f (by decide)) rfl ?_
  refine o_aloadN W0 (pc' := 7) (hb hy d18_6) rfl rfl rfl ?_
  refine o_private W0 (y := (⟨"java/util/ArrayList", "grow", "()[Ljava/lang/Object;"⟩ : MethodName)) (w120 hw) (w121 hw) (w123 hw) (w122 hw) (w124 hw) (by decide) E_a1 (argsL := []) (CtrN.back (Wd := 0) W0 (rm13 l Z a0 hw gO2 k_gO2 a1 h0 W0.old F_a1_size E_a1 F_a1_elementData VgO2 SgO2_DEFAULTCAPACITY_EMPTY_ELEMENTDATA F_a1_modCount g_a1) (w124 hw) (w40 hw) (by decide) (by decide)) (by rw [hml]; rfl) (lenOf pd9 rfl) (S := []) rfl (by exact Nat.le_of_eq rfl) (pc' := 10) (hb hy d18_7) rfl (cells' := 1) (slots' := 10) rfl rfl (by decide) (by decide) (wy := [a1]) (fun _ _ _ q => ⟨q.1, q.2.1⟩) (allS ⟨g_a1, (Or.inl (List.mem_of_getElem? (i := 0) rfl))⟩ all0) (fun _ _ => trivial) ?_
  intro v1 T1 h1 lo1 W1 K1 q1
  obtain ⟨r1_1, r2_1, P1_0, P1_1, P1_2, P1_3, P1_4, P1_5, P1_6, rfl⟩ := q1.2.2
  show Gl _ _ _ _ _ _ _ _ [(.ref r1_1)]
  refine o_astoreN W1 (L' := #[.val (.ref a1), .val (.ref a2), .val (.ref r1_1), .val (.int 0)]) (pc' := 11) (hb hy d18_10) rfl rfl rfl ?_
  refine o_aloadN W1 (pc' := 12) (hb hy d18_11) rfl rfl rfl ?_
  refine o_iloadN W1 (pc' := 13) (hb hy d18_12) rfl rfl ?_
  refine o_aloadN W1 (pc' := 14) (hb hy d18_13) rfl rfl rfl ?_
  have c2 := (E_a2.keep K1)
  refine o_stR W1 P1_4 (i := 0) rfl rfl (own_stoV P1_4 P1_5 (Ins.of_exa c2 (w136 hw))) (by decide) (by decide) (by decide) (Nat.lt_of_sub_eq_succ rfl) (vs' := [(.ref a2), .null, .null, .null, .null, .null, .null, .null, .null, .null]) rfl (Nat.le_trans W0.zs P1_0) (Or.inr (Nat.le_trans W0.keep.1 P1_0)) (fun _ _ => trivial) (pc' := 15) (hb hy d18_14) rfl ?_
  intro T3 h3 lo3 W3 R3 V3
  refine o_aloadN W3 (pc' := 16) (hb hy d18_15) rfl rfl rfl ?_
  refine o_iloadN W3 (pc' := 17) (hb hy d18_16) rfl rfl ?_
  refine o_iconst W3 (v := 1) (pc' := 18) (hb hy d18_17) rfl rfl ?_
  refine o_iadd W3 (v := 1) (pc' := 19) (hb hy d18_18) (by decide) rfl ?_
  have c4 := ((E_a1.keep K1).wr R3)
  have c5 := (P1_1.other R3 (Or.inl (own_ne E_a1.lt P1_0)))
  refine o_putF W3 (w94 hw) Via.refl c5 c4 (Or.inl (w95 hw)) (w39 hw) (ty := .int) (v' := (.int 1)) (by decide) rfl rfl g_a1 (Or.inl (List.mem_of_getElem? (i := 0) rfl)) (fun _ _ => trivial) (pc' := 22) (hb hy d18_19) rfl ?_
  intro T6 h6 lo6 W6 R6
  have F6 := c5.same R6
  have c7 := ((P1_3.other R3 (Or.inl (own_ne E_a1.lt P1_0))).other R6 (Or.inr (slot_ne (Or.inl (w58 hw)) (Or.inl (w95 hw)) (by decide) (t := .int) (t' := .int) (by decide) (by decide))))
  have c8 := ((P1_2.other R3 (Or.inl (own_ne E_a1.lt P1_0))).other R6 (Or.inr (slot_ne (Or.inl (w61 hw)) (Or.inl (w95 hw)) (by decide) (t := (.array (.object "java/lang/Object"))) (t' := .int) (by decide) (by decide))))
  have c9 := (c4.wr R6)
  have c10 := (V3.other R6 (own_ne' E_a1.lt P1_0))
  have c11 := ((P1_6.wr R3).wr R6)
  exact o_ret0 W6 hlk hret (hb hy d18_22) (by decide) (by decide) ⟨r1_1, r2_1, (Nat.le_trans W0.keep.1 P1_0), F6, c8, c7, c10, P1_5, c11, rfl⟩
theorem rm15 (l : Launch) (Z : State) (a0 : Array Value) (hw : ∀ d ∈ tables_1, d.before a0 Z = true) (gO2 : Addr) (k_gO2 : ClassId) (a1 a2 : Addr) (h0 : Heap) (O0 : Old Z Z.heap.size h0) (F_a1_modCount : Fld Z h0 a1 "java/util/AbstractList" "modCount" "I" (.int 0)) (E_a1 : Exa Z h0 a1 "java/util/ArrayList") (g_a1 : Z.heap.size ≤ a1) (F_a1_elementData : Fld Z h0 a1 "java/util/ArrayList" "elementData" "[Ljava/lang/Object;" (.ref gO2)) (F_a1_size : Fld Z h0 a1 "java/util/ArrayList" "size" "I" (.int 0)) (VgO2 : Arv Z Z.heap gO2 k_gO2 (.object "java/lang/Object") (0 : Int32) [] .null) (SgO2_DEFAULTCAPACITY_EMPTY_ELEMENTDATA : Sta Z Z.heap "java/util/ArrayList" "DEFAULTCAPACITY_EMPTY_ELEMENTDATA" "[Ljava/lang/Object;" (.ref gO2)) (E_a2 : Exa Z h0 a2 "com/example/sessn/sessn/log/LoggedQuery") :
    CtrN l Z (⟨"java/util/ArrayList", "add", "(Ljava/lang/Object;)Z"⟩ : MethodName) jdk_38_method_25_code 2 (some .boolean) [] (⟨4, 1, 10, 56⟩ : Room) #[(.ref a1), (.ref a2)] h0 [a1] (fun v h => ∃ r1 : Addr, ∃ r2 : ClassId, h0.size ≤ r1 ∧ Fld Z h a1 "java/util/AbstractList" "modCount" "I" (.int 1) ∧ Fld Z h a1 "java/util/ArrayList" "elementData" "[Ljava/lang/Object;" (.ref r1) ∧ Fld Z h a1 "java/util/ArrayList" "size" "I" (.int 1) ∧ Arv Z h r1 r2 (.object "java/lang/Object") (10 : Int32) [(.ref a2), .null, .null, .null, .null, .null, .null, .null, .null, .null] .null ∧ Ovr Z r2 "java/lang/Object" ∧ Exa Z h r1 "[Ljava/lang/Object;" ∧ v = some (.int 1)) := by
  refine CtrN.intro (L0 := #[.val (.ref a1), .val (.ref a2)]) (plainFor_of_name pn2) O0 (own_entry rfl) ?_
  intro p e s m below meth c T0 hy hml hret hlk hnm W0
  refine o_aloadN W0 (pc' := 1) (hb hy d17_0) rfl rfl rfl ?_
  refine o_dup W0 (pc' := 2) (hb hy d17_1) rfl rfl ?_
  refine o_getF W0 (w113 hw) (Via.of (w114 hw)) F_a1_modCount (pc' := 5) (hb hy d17_2) rfl ?_
  intro T1 W1
  refine o_iconst W1 (v := 1) (pc' := 6) (hb hy d17_5) rfl rfl ?_
  refine o_iadd W1 (v := 1) (pc' := 7) (hb hy d17_6) (by decide) rfl ?_
  refine o_putF W1 (w113 hw) (Via.of (w114 hw)) F_a1_modCount E_a1 (Or.inl (w58 hw)) (w39 hw) (ty := .int) (v' := (.int 1)) (by decide) rfl rfl g_a1 (Or.inl (List.mem_of_getElem? (i := 0) rfl)) (fun _ _ => trivial) (pc' := 10) (hb hy d17_7) rfl ?_
  intro T2 h2 lo2 W2 R2
  have F2 := F_a1_modCount.same R2
  refine o_aloadN W2 (pc' := 11) (hb hy d17_10) rfl rfl rfl ?_
  refine o_aloadN W2 (pc' := 12) (hb hy d17_11) rfl rfl rfl ?_
  refine o_aloadN W2 (pc' := 13) (hb hy d17_12) rfl rfl rfl ?_
  have c3 := (F_a1_elementData.other R2 (Or.inr (slot_ne (Or.inl (w61 hw)) (Or.inl (w58 hw)) (by decide) (t := (.array (.object "java/lang/Object"))) (t' := .int) (by decide) (by decide))))
  refine o_getF W2 (w60 hw) Via.refl c3 (pc' := 16) (hb hy d17_13) rfl ?_
  intro T4 W4
  refine o_aloadN W4 (pc' := 17) (hb hy d17_16) rfl rfl rfl ?_
  have c5 := (F_a1_size.other R2 (Or.inr (slot_ne (Or.inl (w95 hw)) (Or.inl (w58 hw)) (by decide) (t := .int) (t' := .int) (by decide) (by decide))))
  refine o_getF W4 (w94 hw) Via.refl c5 (pc' := 20) (hb hy d17_17) rfl ?_
  intro T6 W6
  have c7 := (E_a2.wr R2)
  have c8 := (E_a1.wr R2)
  refine o_private W6 (y := (⟨"java/util/ArrayList", "add", "(Ljava/lang/Object;[Ljava/lang/Object;I)V"⟩ : MethodName)) (w115 hw) (w116 hw) (w118 hw) (w117 hw) (w119 hw) (by decide) c8 (argsL := [(.ref a2), (.ref gO2), (.int 0)]) (CtrN.back (Wd := 0) W6 (rm14 l Z a0 hw gO2 k_gO2 a1 a2 h2 W6.old VgO2 c8 c5 c3 SgO2_DEFAULTCAPACITY_EMPTY_ELEMENTDATA F2 g_a1 c7) (w119 hw) (w40 hw) (by decide) (by decide)) (by rw [hml]; rfl) (lenOf pd10 rfl) (S := []) rfl (by exact Nat.le_of_eq rfl) (pc' := 23) (hb hy d17_20) rfl (cells' := 1) (slots' := 10) rfl rfl (by decide) (by decide) (wy := [a1]) (fun _ _ _ q => ⟨q.1, q.2.1⟩) (allS ⟨g_a1, (Or.inl (List.mem_of_getElem? (i := 0) rfl))⟩ all0) (fun _ _ => trivial) ?_
  intro v9 T9 h9 lo9 W9 K9 q9
  obtain ⟨r1_9, r2_9, P9_0, P9_1, P9_2, P9_3, P9_4, P9_5, P9_6, rfl⟩ := q9.2.2
  show Gl _ _ _ _ _ _ _ _ []
  refine o_iconst W9 (v := 1) (pc' := 24) (hb hy d17_23) rfl rfl ?_
  have c10 := (c8.keep K9)
  exact o_retN W9 hlk (t := .boolean) hret (by simp) (z' := (1 : Int32)) (by decide) (hb hy d17_24) (by decide) (by decide) ⟨r1_9, r2_9, (Nat.le_trans W6.keep.1 P9_0), P9_3, P9_2, P9_1, P9_4, P9_5, P9_6, rfl⟩
theorem rm16 (l : Launch) (Z : State) (a0 : Array Value) (hw : ∀ d ∈ tables_1, d.before a0 Z = true) (a1 : Addr) (h0 : Heap) (O0 : Old Z Z.heap.size h0) (F_a1_size : Fld Z h0 a1 "java/util/ArrayList" "size" "I" (.int 1)) :
    CtrN l Z (⟨"java/util/ArrayList", "isEmpty", "()Z"⟩ : MethodName) jdk_38_method_9_code 1 (some .boolean) [] (⟨0, 0, 0, 0⟩ : Room) #[(.ref a1)] h0 [] (fun v h => v = some (.int 0)) := by
  refine CtrN.intro (L0 := #[.val (.ref a1)]) (plainFor_of_name pn2) O0 (own_entry rfl) ?_
  intro p e s m below meth c T0 hy hml hret hlk hnm W0
  refine o_aloadN W0 (pc' := 1) (hb hy d15_0) rfl rfl rfl ?_
  refine o_getF W0 (w94 hw) Via.refl F_a1_size (pc' := 4) (hb hy d15_1) rfl ?_
  intro T1 W1
  refine o_ifY W1 (pc' := 11) (hb hy d15_4) (XT.i0_ne_t (by decide)) (by decide) rfl ?_
  refine o_iconst W1 (v := 0) (pc' := 12) (hb hy d15_11) rfl rfl ?_
  exact o_retN W1 hlk (t := .boolean) hret (by simp) (z' := (0 : Int32)) (by decide) (hb hy d15_12) (by decide) (by decide) rfl
theorem rm17 (l : Launch) (Z : State) (a0 : Array Value) (hw : ∀ d ∈ tables_1, d.before a0 Z = true)  (h0 : Heap) (O0 : Old Z Z.heap.size h0) :
    CtrN l Z (⟨"java/lang/Math", "min", "(II)I"⟩ : MethodName) jdk_29_method_69_code 2 (some .int) [] (⟨0, 0, 0, 0⟩ : Room) #[(.int 10), (.int 1)] h0 [] (fun v h => v = some (.int 1)) := by
  refine CtrN.intro (L0 := #[.val (.int 10), .val (.int 1)]) (Jvm.Free.JP.mathPlain rfl (by decide +kernel)) O0 (own_entry rfl) ?_
  intro p e s m below meth c T0 hy hml hret hlk hnm W0
  refine o_iloadN W0 (pc' := 1) (hb hy d26_0) rfl rfl ?_
  refine o_iloadN W0 (pc' := 2) (hb hy d26_1) rfl rfl ?_
  refine o_icmpY W0 (pc' := 9) (hb hy d26_2) (XT.ii_gt_t (by decide)) (by decide) rfl ?_
  refine o_iloadN W0 (pc' := 10) (hb hy d26_9) rfl rfl ?_
  exact o_retI W0 hlk hret (hb hy d26_10) (by decide) (by decide) rfl
theorem rm18 (l : Launch) (Z : State) (a0 : Array Value) (hw : ∀ d ∈ tables_1, d.before a0 Z = true) (gMO a1 : Addr) (k_a1 : ClassId) (a2 : Addr) (h0 : Heap) (O0 : Old Z Z.heap.size h0) (MgMO : MirW Z "[Ljava/lang/Object;" gMO) (V_a1 : Arv Z h0 a1 k_a1 (.object "java/lang/Object") (10 : Int32) [(.ref a2), .null, .null, .null, .null, .null, .null, .null, .null, .null] .null) (E_a2 : Exa Z h0 a2 "com/example/sessn/sessn/log/LoggedQuery") :
    CtrN l Z (⟨"java/util/Arrays", "copyOf", "([Ljava/lang/Object;ILjava/lang/Class;)[Ljava/lang/Object;"⟩ : MethodName) jdk_65_method_120_code 4 (some (.array (.object "java/lang/Object"))) [] (⟨1, 1, 1, 27⟩ : Room) #[(.ref a1), (.int 1), (.ref gMO)] h0 [] (fun v h => ∃ r1 : Addr, ∃ r2 : ClassId, h0.size ≤ r1 ∧ Arv Z h r1 r2 (.object "java/lang/Object") (1 : Int32) [(.ref a2)] .null ∧ Ovr Z r2 "java/lang/Object" ∧ Exa Z h r1 "[Ljava/lang/Object;" ∧ v = some (.ref r1)) := by
  refine CtrN.intro (L0 := #[.val (.ref a1), .val (.int 1), .val (.ref gMO), .unset]) (plainFor_of_name pn8) O0 (own_entry rfl) ?_
  intro p e s m below meth c T0 hy hml hret hlk hnm W0
  refine o_aloadN W0 (pc' := 1) (hb hy d25_0) rfl rfl rfl ?_
  refine o_ldcM W0 (w174 hw) MgMO (pc' := 3) (hb hy d25_1) rfl ?_
  intro T1 W1
  refine o_acmpN W1 (pc' := 6) (hb hy d25_3) rfl rfl (XT.aa_ne_f rfl) rfl ?_
  refine o_iloadN W1 (pc' := 7) (hb hy d25_6) rfl rfl ?_
  refine o_newRE W1 (w175 hw) (w135 hw) (fun _ _ => trivial) (ad := "[Ljava/lang/Object;") (by decide) (by decide) (cap := 1) (by decide) (by decide) (pc' := 10) (hb hy d25_7) rfl (cells' := 1) (slots' := 1) rfl rfl (by decide) (by decide) (vs := [.null]) rfl ?_
  intro b2 T2 h2 k2 W2 E2 ge2 gz2 gb2 V2 O2 A2
  refine o_goto W2 (pc' := 24) (hb hy d25_10) (by decide) rfl ?_
  refine o_astoreN W2 (L' := #[.val (.ref a1), .val (.int 1), .val (.ref gMO), .val (.ref b2)]) (pc' := 25) (hb hy d25_24) rfl rfl rfl ?_
  refine o_aloadN W2 (pc' := 26) (hb hy d25_25) rfl rfl rfl ?_
  refine o_iconst W2 (v := 0) (pc' := 27) (hb hy d25_26) rfl rfl ?_
  refine o_aloadN W2 (pc' := 28) (hb hy d25_27) rfl rfl rfl ?_
  refine o_iconst W2 (v := 0) (pc' := 29) (hb hy d25_28) rfl rfl ?_
  refine o_aloadN W2 (pc' := 30) (hb hy d25_29) rfl rfl rfl ?_
  have c3 := (V_a1.ext E2)
  refine o_len W2 c3 (pc' := 31) (hb hy d25_30) rfl ?_
  refine o_iloadN W2 (pc' := 32) (hb hy d25_31) rfl rfl ?_
  refine o_static W2 (y := (⟨"java/lang/Math", "min", "(II)I"⟩ : MethodName)) (w176 hw) (w177 hw) (w132 hw) (w178 hw) (by decide) (argsL := [(.int 10), (.int 1)]) (CtrN.back (Wd := 4) W2 (rm17 l Z a0 hw  h2 W2.old ) (w178 hw) (w132 hw) (by decide) (by decide)) (by rw [hml]; rfl) (lenOf pd7 rfl) (S := [(.int 0), (.ref b2), (.int 0), (.ref a1)]) rfl (by exact Nat.le_of_eq rfl) (pc' := 35) (hb hy d25_32) rfl (cells' := 1) (slots' := 1) rfl rfl (by decide) (by decide) (wy := []) (fun _ _ _ q => ⟨q.1, q.2.1⟩) all0 (fun _ _ => trivial) ?_
  intro v4 T4 h4 lo4 W4 K4 q4
  obtain rfl := q4.2.2
  show Gl _ _ _ _ _ _ _ _ [(.int 1), (.int 0), (.ref b2), (.int 0), (.ref a1)]
  have c5 := (c3.keep K4 nin0)
  have c6 := (V2.keep K4 nin0)
  have c7 := ((E_a2.ext E2).keep K4)
  refine o_copy W4 (w179 hw) (w182 hw) (w180 hw) (w181 hw) c5 c6 (us := [(.ref a2)]) (Or.inr ⟨rfl, rfl, ⟨(own_stoV c6 O2 (Ins.of_exa c7 (w136 hw))), trivial⟩⟩) (by decide) (by decide) (by decide) (by decide) (by decide) rfl (Nat.le_of_ble_eq_true rfl) (vd' := [(.ref a2)]) rfl gz2 (Or.inr gb2) (fun _ _ => trivial) (by rw [hml]; rfl) (pc' := 38) (hb hy d25_35) rfl (by decide) 0 (by exact Nat.le_of_eq rfl) (by decide) ?_
  intro T8 h8 lo8 W8 K8 V8
  refine o_aloadN W8 (pc' := 39) (hb hy d25_38) rfl rfl rfl ?_
  have c9 := ((A2.keep K4).keep K8)
  exact o_retA W8 hlk (v := (.ref b2)) hret rfl rfl (hb hy d25_39) (by decide) (by decide) ⟨b2, k2, gb2, V8, O2, c9, rfl⟩
theorem rm19 (l : Launch) (Z : State) (a0 : Array Value) (hw : ∀ d ∈ tables_1, d.before a0 Z = true) (gMO a1 : Addr) (k_a1 : ClassId) (a2 : Addr) (h0 : Heap) (O0 : Old Z Z.heap.size h0) (E_a1 : Exa Z h0 a1 "[Ljava/lang/Object;") (MgMO : MirW Z "[Ljava/lang/Object;" gMO) (V_a1 : Arv Z h0 a1 k_a1 (.object "java/lang/Object") (10 : Int32) [(.ref a2), .null, .null, .null, .null, .null, .null, .null, .null, .null] .null) (E_a2 : Exa Z h0 a2 "com/example/sessn/sessn/log/LoggedQuery") :
    CtrN l Z (⟨"java/util/Arrays", "copyOf", "([Ljava/lang/Object;I)[Ljava/lang/Object;"⟩ : MethodName) jdk_65_method_119_code 2 (some (.array (.object "java/lang/Object"))) [] (⟨2, 1, 1, 42⟩ : Room) #[(.ref a1), (.int 1)] h0 [] (fun v h => ∃ r1 : Addr, ∃ r2 : ClassId, h0.size ≤ r1 ∧ Arv Z h r1 r2 (.object "java/lang/Object") (1 : Int32) [(.ref a2)] .null ∧ Ovr Z r2 "java/lang/Object" ∧ Exa Z h r1 "[Ljava/lang/Object;" ∧ v = some (.ref r1)) := by
  refine CtrN.intro (L0 := #[.val (.ref a1), .val (.int 1)]) (plainFor_of_name pn8) O0 (own_entry rfl) ?_
  intro p e s m below meth c T0 hy hml hret hlk hnm W0
  refine o_aloadN W0 (pc' := 1) (hb hy d24_0) rfl rfl rfl ?_
  refine o_iloadN W0 (pc' := 2) (hb hy d24_1) rfl rfl ?_
  refine o_aloadN W0 (pc' := 3) (hb hy d24_2) rfl rfl rfl ?_
  refine o_gcls W0 (w165 hw) (w166 hw) (w83 hw) (w168 hw) (w167 hw) (w169 hw) E_a1 MgMO (by rw [hml]; rfl) (pc' := 6) (hb hy d24_3) rfl (by decide) 2 (by exact Nat.le_of_eq rfl) (by decide) ?_
  intro T1 W1
  refine o_static W1 (y := (⟨"java/util/Arrays", "copyOf", "([Ljava/lang/Object;ILjava/lang/Class;)[Ljava/lang/Object;"⟩ : MethodName)) (w171 hw) (w172 hw) (w163 hw) (w173 hw) (by decide) (argsL := [(.ref a1), (.int 1), (.ref gMO)]) (CtrN.back (Wd := 0) W1 (rm18 l Z a0 hw gMO a1 k_a1 a2 h0 W1.old MgMO V_a1 E_a2) (w173 hw) (w163 hw) (by decide) (by decide)) (by rw [hml]; rfl) (lenOf pd12 rfl) (S := []) rfl (by exact Nat.le_of_eq rfl) (pc' := 9) (hb hy d24_6) rfl (cells' := 1) (slots' := 1) rfl rfl (by decide) (by decide) (wy := []) (fun _ _ _ q => ⟨q.1, q.2.1⟩) all0 (fun _ _ => trivial) ?_
  intro v2 T2 h2 lo2 W2 K2 q2
  obtain ⟨r1_2, r2_2, P2_0, P2_1, P2_2, P2_3, rfl⟩ := q2.2.2
  show Gl _ _ _ _ _ _ _ _ [(.ref r1_2)]
  exact o_retA W2 hlk (v := (.ref r1_2)) hret rfl rfl (hb hy d24_9) (by decide) (by decide) ⟨r1_2, r2_2, (Nat.le_trans W1.keep.1 P2_0), P2_1, P2_2, P2_3, rfl⟩
theorem rm20 (l : Launch) (Z : State) (a0 : Array Value) (hw : ∀ d ∈ tables_1, d.before a0 Z = true) (gMO a1 a2 : Addr) (k_a2 : ClassId) (a3 : Addr) (h0 : Heap) (O0 : Old Z Z.heap.size h0) (F_a1_elementData : Fld Z h0 a1 "java/util/ArrayList" "elementData" "[Ljava/lang/Object;" (.ref a2)) (F_a1_size : Fld Z h0 a1 "java/util/ArrayList" "size" "I" (.int 1)) (E_a2 : Exa Z h0 a2 "[Ljava/lang/Object;") (MgMO : MirW Z "[Ljava/lang/Object;" gMO) (V_a2 : Arv Z h0 a2 k_a2 (.object "java/lang/Object") (10 : Int32) [(.ref a3), .null, .null, .null, .null, .null, .null, .null, .null, .null] .null) (E_a3 : Exa Z h0 a3 "com/example/sessn/sessn/log/LoggedQuery") :
    CtrN l Z (⟨"java/util/ArrayList", "toArray", "()[Ljava/lang/Object;"⟩ : MethodName) jdk_38_method_16_code 1 (some (.array (.object "java/lang/Object"))) [] (⟨3, 1, 1, 55⟩ : Room) #[(.ref a1)] h0 [] (fun v h => ∃ r1 : Addr, ∃ r2 : ClassId, h0.size ≤ r1 ∧ Arv Z h r1 r2 (.object "java/lang/Object") (1 : Int32) [(.ref a3)] .null ∧ Ovr Z r2 "java/lang/Object" ∧ Exa Z h r1 "[Ljava/lang/Object;" ∧ v = some (.ref r1)) := by
  refine CtrN.intro (L0 := #[.val (.ref a1)]) (plainFor_of_name pn2) O0 (own_entry rfl) ?_
  intro p e s m below meth c T0 hy hml hret hlk hnm W0
  refine o_aloadN W0 (pc' := 1) (hb hy d23_0) rfl rfl rfl ?_
  refine o_getF W0 (w60 hw) Via.refl F_a1_elementData (pc' := 4) (hb hy d23_1) rfl ?_
  intro T1 W1
  refine o_aloadN W1 (pc' := 5) (hb hy d23_4) rfl rfl rfl ?_
  refine o_getF W1 (w94 hw) Via.refl F_a1_size (pc' := 8) (hb hy d23_5) rfl ?_
  intro T2 W2
  refine o_static W2 (y := (⟨"java/util/Arrays", "copyOf", "([Ljava/lang/Object;I)[Ljava/lang/Object;"⟩ : MethodName)) (w161 hw) (w162 hw) (w163 hw) (w164 hw) (by decide) (argsL := [(.ref a2), (.int 1)]) (CtrN.back (Wd := 0) W2 (rm19 l Z a0 hw gMO a2 k_a2 a3 h0 W2.old E_a2 MgMO V_a2 E_a3) (w164 hw) (w163 hw) (by decide) (by decide)) (by rw [hml]; rfl) (lenOf pd13 rfl) (S := []) rfl (by exact Nat.le_of_eq rfl) (pc' := 11) (hb hy d23_8) rfl (cells' := 1) (slots' := 1) rfl rfl (by decide) (by decide) (wy := []) (fun _ _ _ q => ⟨q.1, q.2.1⟩) all0 (fun _ _ => trivial) ?_
  intro v3 T3 h3 lo3 W3 K3 q3
  obtain ⟨r1_3, r2_3, P3_0, P3_1, P3_2, P3_3, rfl⟩ := q3.2.2
  show Gl _ _ _ _ _ _ _ _ [(.ref r1_3)]
  exact o_retA W3 hlk (v := (.ref r1_3)) hret rfl rfl (hb hy d23_11) (by decide) (by decide) ⟨r1_3, r2_3, (Nat.le_trans W2.keep.1 P3_0), P3_1, P3_2, P3_3, rfl⟩
theorem rm21 (l : Launch) (Z : State) (a0 : Array Value) (hw : ∀ d ∈ tables_1, d.before a0 Z = true) (a1 : Addr) (h0 : Heap) (O0 : Old Z Z.heap.size h0) :
    CtrN l Z (⟨"java/util/ImmutableCollections$AbstractImmutableCollection", "<init>", "()V"⟩ : MethodName) jdk_47_method_1_code 1 none [] (⟨2, 0, 0, 24⟩ : Room) #[(.ref a1)] h0 [] (fun v h => v = none) := by
  refine CtrN.intro (L0 := #[.val (.ref a1)]) (plainFor_of_name pn9) O0 (own_entry rfl) ?_
  intro p e s m below meth c T0 hy hml hret hlk hnm W0
  refine o_aloadN W0 (pc' := 1) (hb hy d30_0) rfl rfl rfl ?_
  refine o_special W0 (y := (⟨"java/util/AbstractCollection", "<init>", "()V"⟩ : MethodName)) rfl (w205 hw) (w51 hw) (w55 hw) (by decide) (a := a1) (argsL := []) (CtrN.back (Wd := 0) W0 (rm1 l Z a0 hw a1 h0 W0.old ) (w55 hw) (w54 hw) (by decide) (by decide)) (by rw [hml]; rfl) (lenOf pd1 rfl) (S := []) rfl (by exact Nat.le_of_eq rfl) (pc' := 4) (hb hy d30_1) rfl (cells' := 0) (slots' := 0) rfl rfl (by decide) (by decide) (wy := []) (fun _ _ _ q => ⟨q.1, q.2.1⟩) all0 (fun _ _ => trivial) ?_
  intro v1 T1 h1 lo1 W1 K1 q1
  obtain rfl := q1.2.2
  show Gl _ _ _ _ _ _ _ _ []
  exact o_ret0 W1 hlk hret (hb hy d30_4) (by decide) (by decide) rfl
theorem rm22 (l : Launch) (Z : State) (a0 : Array Value) (hw : ∀ d ∈ tables_1, d.before a0 Z = true) (a1 : Addr) (h0 : Heap) (O0 : Old Z Z.heap.size h0) :
    CtrN l Z (⟨"java/util/ImmutableCollections$AbstractImmutableList", "<init>", "()V"⟩ : MethodName) jdk_46_method_1_code 1 none [] (⟨3, 0, 0, 36⟩ : Room) #[(.ref a1)] h0 [] (fun v h => v = none) := by
  refine CtrN.intro (L0 := #[.val (.ref a1)]) (plainFor_of_name pn10) O0 (own_entry rfl) ?_
  intro p e s m below meth c T0 hy hml hret hlk hnm W0
  refine o_aloadN W0 (pc' := 1) (hb hy d29_0) rfl rfl rfl ?_
  refine o_special W0 (y := (⟨"java/util/ImmutableCollections$AbstractImmutableCollection", "<init>", "()V"⟩ : MethodName)) rfl (w199 hw) (w200 hw) (w204 hw) (by decide) (a := a1) (argsL := []) (CtrN.back (Wd := 0) W0 (rm21 l Z a0 hw a1 h0 W0.old ) (w204 hw) (w203 hw) (by decide) (by decide)) (by rw [hml]; rfl) (lenOf pd1 rfl) (S := []) rfl (by exact Nat.le_of_eq rfl) (pc' := 4) (hb hy d29_1) rfl (cells' := 0) (slots' := 0) rfl rfl (by decide) (by decide) (wy := []) (fun _ _ _ q => ⟨q.1, q.2.1⟩) all0 (fun _ _ => trivial) ?_
  intro v1 T1 h1 lo1 W1 K1 q1
  obtain rfl := q1.2.2
  show Gl _ _ _ _ _ _ _ _ []
  exact o_ret0 W1 hlk hret (hb hy d29_4) (by decide) (by decide) rfl
theorem rm23 (l : Launch) (Z : State) (a0 : Array Value) (hw : ∀ d ∈ tables_1, d.before a0 Z = true) (a1 : Addr) (h0 : Heap) (O0 : Old Z Z.heap.size h0) :
    CtrN l Z (⟨"java/util/Objects", "requireNonNull", "(Ljava/lang/Object;)Ljava/lang/Object;"⟩ : MethodName) jdk_31_method_10_code 1 (some (.object "java/lang/Object")) [] (⟨0, 0, 0, 0⟩ : Room) #[(.ref a1)] h0 [] (fun v h => v = some (.ref a1)) := by
  refine CtrN.intro (L0 := #[.val (.ref a1)]) (plainFor_of_name pn11) O0 (own_entry rfl) ?_
  intro p e s m below meth c T0 hy hml hret hlk hnm W0
  refine o_aloadN W0 (pc' := 1) (hb hy d31_0) rfl rfl rfl ?_
  refine o_ifnonnullY W0 (pc' := 12) (hb hy d31_1) (by decide) rfl ?_
  refine o_aloadN W0 (pc' := 13) (hb hy d31_12) rfl rfl rfl ?_
  exact o_retA W0 hlk (v := (.ref a1)) hret rfl rfl (hb hy d31_13) (by decide) (by decide) rfl
theorem rm24 (l : Launch) (Z : State) (a0 : Array Value) (hw : ∀ d ∈ tables_1, d.before a0 Z = true) (gO5 a1 a2 : Addr) (h0 : Heap) (O0 : Old Z Z.heap.size h0) (E_a1 : Exa Z h0 a1 "java/util/ImmutableCollections$List12") (F_a1_e0 : Fld Z h0 a1 "java/util/ImmutableCollections$List12" "e0" "Ljava/lang/Object;" .null) (g_a1 : Z.heap.size ≤ a1) (SgO5_EMPTY : Sta Z Z.heap "java/util/ImmutableCollections" "EMPTY" "Ljava/lang/Object;" (.ref gO5)) (F_a1_e1 : Fld Z h0 a1 "java/util/ImmutableCollections$List12" "e1" "Ljava/lang/Object;" .null) :
    CtrN l Z (⟨"java/util/ImmutableCollections$List12", "<init>", "(Ljava/lang/Object;)V"⟩ : MethodName) jdk_44_method_1_code 2 none [] (⟨4, 0, 0, 48⟩ : Room) #[(.ref a1), (.ref a2)] h0 [a1] (fun v h => Fld Z h a1 "java/util/ImmutableCollections$List12" "e0" "Ljava/lang/Object;" (.ref a2) ∧ Fld Z h a1 "java/util/ImmutableCollections$List12" "e1" "Ljava/lang/Object;" (.ref gO5) ∧ v = none) := by
  refine CtrN.intro (L0 := #[.val (.ref a1), .val (.ref a2)]) (plainFor_of_name pn12) O0 (own_entry rfl) ?_
  intro p e s m below meth c T0 hy hml hret hlk hnm W0
  refine o_aloadN W0 (pc' := 1) (hb hy d28_0) rfl rfl rfl ?_
  refine o_special W0 (y := (⟨"java/util/ImmutableCollections$AbstractImmutableList", "<init>", "()V"⟩ : MethodName)) rfl (w193 hw) (w194 hw) (w198 hw) (by decide) (a := a1) (argsL := []) (CtrN.back (Wd := 0) W0 (rm22 l Z a0 hw a1 h0 W0.old ) (w198 hw) (w197 hw) (by decide) (by decide)) (by rw [hml]; rfl) (lenOf pd1 rfl) (S := []) rfl (by exact Nat.le_of_eq rfl) (pc' := 4) (hb hy d28_1) rfl (cells' := 0) (slots' := 0) rfl rfl (by decide) (by decide) (wy := []) (fun _ _ _ q => ⟨q.1, q.2.1⟩) all0 (fun _ _ => trivial) ?_
  intro v1 T1 h1 lo1 W1 K1 q1
  obtain rfl := q1.2.2
  show Gl _ _ _ _ _ _ _ _ []
  refine o_aloadN W1 (pc' := 5) (hb hy d28_4) rfl rfl rfl ?_
  refine o_aloadN W1 (pc' := 6) (hb hy d28_5) rfl rfl rfl ?_
  refine o_static W1 (y := (⟨"java/util/Objects", "requireNonNull", "(Ljava/lang/Object;)Ljava/lang/Object;"⟩ : MethodName)) (w207 hw) (w208 hw) (w209 hw) (w210 hw) (by decide) (argsL := [(.ref a2)]) (CtrN.back (Wd := 1) W1 (rm23 l Z a0 hw a2 h1 W1.old ) (w210 hw) (w209 hw) (by decide) (by decide)) (by rw [hml]; rfl) (lenOf pd14 rfl) (S := [(.ref a1)]) rfl (by exact Nat.le_of_eq rfl) (pc' := 9) (hb hy d28_6) rfl (cells' := 0) (slots' := 0) rfl rfl (by decide) (by decide) (wy := []) (fun _ _ _ q => ⟨q.1, q.2.1⟩) all0 (fun _ _ => trivial) ?_
  intro v2 T2 h2 lo2 W2 K2 q2
  obtain rfl := q2.2.2
  show Gl _ _ _ _ _ _ _ _ [(.ref a2), (.ref a1)]
  have c3 := ((E_a1.keep K1).keep K2)
  have c4 := ((F_a1_e0.keep K1 nin0).keep K2 nin0)
  refine o_putF W2 (w211 hw) Via.refl c4 c3 (Or.inr ⟨(w212 hw), rfl, hnm⟩) (w187 hw) (ty := (.object "java/lang/Object")) (v' := (.ref a2)) (by decide) rfl rfl g_a1 (Or.inl (List.mem_of_getElem? (i := 0) rfl)) (fun _ _ => trivial) (pc' := 12) (hb hy d28_9) rfl ?_
  intro T5 h5 lo5 W5 R5
  have F5 := c4.same R5
  refine o_aloadN W5 (pc' := 13) (hb hy d28_12) rfl rfl rfl ?_
  refine o_getSN W5 (w213 hw) Via.refl (SgO5_EMPTY.ext W5.ox) (pc' := 16) (hb hy d28_13) rfl ?_
  intro T6 W6
  have c7 := (c3.wr R5)
  have c8 := (((F_a1_e1.keep K1 nin0).keep K2 nin0).other R5 (Or.inr (slot_ne (Or.inr (w215 hw)) (Or.inr (w212 hw)) (by decide) (t := (.object "java/lang/Object")) (t' := (.object "java/lang/Object")) (by decide) (by decide))))
  refine o_putF W6 (w214 hw) Via.refl c8 c7 (Or.inr ⟨(w215 hw), rfl, hnm⟩) (w187 hw) (ty := (.object "java/lang/Object")) (v' := (.ref gO5)) (by decide) rfl rfl g_a1 (Or.inl (List.mem_of_getElem? (i := 0) rfl)) (fun _ _ => trivial) (pc' := 19) (hb hy d28_16) rfl ?_
  intro T9 h9 lo9 W9 R9
  have F9 := c8.same R9
  have c10 := (F5.other R9 (Or.inr (slot_ne (Or.inr (w212 hw)) (Or.inr (w215 hw)) (by decide) (t := (.object "java/lang/Object")) (t' := (.object "java/lang/Object")) (by decide) (by decide))))
  have c11 := (c7.wr R9)
  exact o_ret0 W9 hlk hret (hb hy d28_19) (by decide) (by decide) ⟨c10, F9, rfl⟩
theorem rm25 (l : Launch) (Z : State) (a0 : Array Value) (hw : ∀ d ∈ tables_1, d.before a0 Z = true) (gO5 a1 : Addr) (k_a1 : ClassId) (a2 : Addr) (h0 : Heap) (O0 : Old Z Z.heap.size h0) (V_a1 : Arv Z h0 a1 k_a1 (.object "java/lang/Object") (1 : Int32) [(.ref a2)] .null) (SgO5_EMPTY : Sta Z Z.heap "java/util/ImmutableCollections" "EMPTY" "Ljava/lang/Object;" (.ref gO5)) :
    CtrN l Z (⟨"java/util/List", "of", "([Ljava/lang/Object;)Ljava/util/List;"⟩ : MethodName) jdk_40_method_47_code 2 (some (.object "java/util/List")) [] (⟨5, 1, 2, 62⟩ : Room) #[(.ref a1)] h0 [] (fun v h => ∃ r1 : Addr, h0.size ≤ r1 ∧ Exa Z h r1 "java/util/ImmutableCollections$List12" ∧ Fld Z h r1 "java/util/ImmutableCollections$List12" "e0" "Ljava/lang/Object;" (.ref a2) ∧ Fld Z h r1 "java/util/ImmutableCollections$List12" "e1" "Ljava/lang/Object;" (.ref gO5) ∧ v = some (.ref r1)) := by
  refine CtrN.intro (L0 := #[.val (.ref a1), .unset]) (plainFor_of_name pn4) O0 (own_entry rfl) ?_
  intro p e s m below meth c T0 hy hml hret hlk hnm W0
  refine o_aloadN W0 (pc' := 1) (hb hy d27_0) rfl rfl rfl ?_
  refine o_len W0 V_a1 (pc' := 2) (hb hy d27_1) rfl ?_
  refine o_tswI W0 (pc' := 34) (hb hy d27_2) (by decide) (off := 32) (by decide) (by decide) rfl ?_
  refine o_new W0 (w186 hw) (w187 hw) (w188 hw) (fun _ _ => trivial) (pc' := 37) (hb hy d27_34) rfl (cells' := 1) (slots' := 2) rfl rfl (by decide) (by decide) ?_
  intro b1 T1 h1 W1 E1 ge1 gz1 gb1 A1 D1
  have Fb1_e0 : Fld Z h1 b1 "java/util/ImmutableCollections$List12" "e0" "Ljava/lang/Object;" .null := D1 (Or.inr (w212 hw)) (ty := (.object "java/lang/Object")) (by decide)
  have Fb1_e1 : Fld Z h1 b1 "java/util/ImmutableCollections$List12" "e1" "Ljava/lang/Object;" .null := D1 (Or.inr (w215 hw)) (ty := (.object "java/lang/Object")) (by decide)
  refine o_dup W1 (pc' := 38) (hb hy d27_37) rfl rfl ?_
  refine o_aloadN W1 (pc' := 39) (hb hy d27_38) rfl rfl rfl ?_
  refine o_iconst W1 (v := 0) (pc' := 40) (hb hy d27_39) rfl rfl ?_
  have c2 := (V_a1.ext E1)
  refine o_aaload W1 c2 rfl (v := (.ref a2)) (i := 0) (by decide) (by decide) (by decide) rfl (pc' := 41) (hb hy d27_40) rfl ?_
  refine o_special W1 (y := (⟨"java/util/ImmutableCollections$List12", "<init>", "(Ljava/lang/Object;)V"⟩ : MethodName)) rfl (w189 hw) (w190 hw) (w192 hw) (by decide) (a := b1) (argsL := [(.ref a2)]) (CtrN.back (Wd := 1) W1 (rm24 l Z a0 hw gO5 b1 a2 h1 W1.old A1 Fb1_e0 gz1 SgO5_EMPTY Fb1_e1) (w192 hw) (w188 hw) (by decide) (by decide)) (by rw [hml]; rfl) (lenOf pd15 rfl) (S := [(.ref b1)]) rfl (by exact Nat.le_of_eq rfl) (pc' := 44) (hb hy d27_41) rfl (cells' := 1) (slots' := 2) rfl rfl (by decide) (by decide) (wy := [b1]) (fun _ _ _ q => ⟨q.1, q.2.1⟩) (allS ⟨gz1, (Or.inr gb1)⟩ all0) (fun _ _ => trivial) ?_
  intro v3 T3 h3 lo3 W3 K3 q3
  obtain ⟨P3_0, P3_1, rfl⟩ := q3.2.2
  show Gl _ _ _ _ _ _ _ _ [(.ref b1)]
  have c4 := (A1.keep K3)
  exact o_retA W3 hlk (v := (.ref b1)) hret rfl rfl (hb hy d27_44) (by decide) (by decide) ⟨b1, gb1, c4, P3_0, P3_1, rfl⟩
theorem rm26 (l : Launch) (Z : State) (a0 : Array Value) (hw : ∀ d ∈ tables_1, d.before a0 Z = true) (gMO gO5 a1 a2 : Addr) (k_a2 : ClassId) (a3 : Addr) (h0 : Heap) (O0 : Old Z Z.heap.size h0) (E_a1 : Exa Z h0 a1 "java/util/ArrayList") (F_a1_size : Fld Z h0 a1 "java/util/ArrayList" "size" "I" (.int 1)) (F_a1_elementData : Fld Z h0 a1 "java/util/ArrayList" "elementData" "[Ljava/lang/Object;" (.ref a2)) (E_a2 : Exa Z h0 a2 "[Ljava/lang/Object;") (MgMO : MirW Z "[Ljava/lang/Object;" gMO) (V_a2 : Arv Z h0 a2 k_a2 (.object "java/lang/Object") (10 : Int32) [(.ref a3), .null, .null, .null, .null, .null, .null, .null, .null, .null] .null) (E_a3 : Exa Z h0 a3 "com/example/sessn/sessn/log/LoggedQuery") (SgO5_EMPTY : Sta Z Z.heap "java/util/ImmutableCollections" "EMPTY" "Ljava/lang/Object;" (.ref gO5)) :
    CtrN l Z (⟨"java/util/ImmutableCollections", "listCopy", "(Ljava/util/Collection;)Ljava/util/List;"⟩ : MethodName) jdk_56_method_3_code 2 (some (.object "java/util/List")) [] (⟨6, 2, 3, 75⟩ : Room) #[(.ref a1)] h0 [] (fun v h => ∃ r1 : Addr, h0.size ≤ r1 ∧ Exa Z h r1 "java/util/ImmutableCollections$List12" ∧ Fld Z h r1 "java/util/ImmutableCollections$List12" "e0" "Ljava/lang/Object;" (.ref a3) ∧ Fld Z h r1 "java/util/ImmutableCollections$List12" "e1" "Ljava/lang/Object;" (.ref gO5) ∧ v = some (.ref r1)) := by
  refine CtrN.intro (L0 := #[.val (.ref a1), .unset]) (plainFor_of_name pn5) O0 (own_entry rfl) ?_
  intro p e s m below meth c T0 hy hml hret hlk hnm W0
  refine o_aloadN W0 (pc' := 1) (hb hy d14_0) rfl rfl rfl ?_
  refine o_instN W0 (w79 hw) E_a1 (own_NSno (w80 hw) (w187 hw) (NS.step (w80 hw) (NS.step (w81 hw) (NS.step (w82 hw) (own_NSr (w83 hw) (w187 hw) (by decide)) (by decide)) (by decide)) (by decide)) (by decide)) (pc' := 4) (hb hy d14_1) rfl ?_
  intro T1 W1
  refine o_ifN W1 (pc' := 7) (hb hy d14_4) (XT.i0_ne_f (by decide)) rfl ?_
  refine o_aloadN W1 (pc' := 8) (hb hy d14_7) rfl rfl rfl ?_
  refine o_instN W1 (w84 hw) E_a1 (own_NSno (w80 hw) (w252 hw) (NS.step (w80 hw) (NS.step (w81 hw) (NS.step (w82 hw) (own_NSr (w83 hw) (w252 hw) (by decide)) (by decide)) (by decide)) (by decide)) (by decide)) (pc' := 11) (hb hy d14_8) rfl ?_
  intro T2 W2
  refine o_ifY W2 (pc' := 31) (hb hy d14_11) (XT.i0_eq_t (by decide)) (by decide) rfl ?_
  refine o_aloadN W2 (pc' := 32) (hb hy d14_31) rfl rfl rfl ?_
  refine o_iface W2 (y := (⟨"java/util/Collection", "isEmpty", "()Z"⟩ : MethodName)) (z := (⟨"java/util/ArrayList", "isEmpty", "()Z"⟩ : MethodName)) (w85 hw) (w86 hw) (w87 hw) (w88 hw) (w89 hw) (w90 hw) (w91 hw) (w92 hw) (by decide) E_a1 (argsL := []) (CtrN.back (Wd := 0) W2 (rm16 l Z a0 hw a1 h0 W2.old F_a1_size) (w93 hw) (w40 hw) (by decide) (by decide)) (by rw [hml]; rfl) (lenOf pd2 rfl) (S := []) rfl (by exact Nat.le_of_eq rfl) (pc' := 37) (hb hy d14_32) rfl (cells' := 0) (slots' := 0) rfl rfl (by decide) (by decide) (wy := []) (fun _ _ _ q => ⟨q.1, q.2.1⟩) all0 (fun _ _ => trivial) ?_
  intro v3 T3 h3 lo3 W3 K3 q3
  obtain rfl := q3.2.2
  show Gl _ _ _ _ _ _ _ _ [(.int 0)]
  refine o_ifY W3 (pc' := 44) (hb hy d14_37) (XT.i0_eq_t (by decide)) (by decide) rfl ?_
  refine o_aloadN W3 (pc' := 45) (hb hy d14_44) rfl rfl rfl ?_
  have c4 := (F_a1_elementData.keep K3 nin0)
  have c5 := (F_a1_size.keep K3 nin0)
  have c6 := (E_a2.keep K3)
  have c7 := (V_a2.keep K3 nin0)
  have c8 := (E_a3.keep K3)
  have c9 := (E_a1.keep K3)
  refine o_iface W3 (y := (⟨"java/util/Collection", "toArray", "()[Ljava/lang/Object;"⟩ : MethodName)) (z := (⟨"java/util/ArrayList", "toArray", "()[Ljava/lang/Object;"⟩ : MethodName)) (w153 hw) (w154 hw) (w155 hw) (w156 hw) (w157 hw) (w158 hw) (w159 hw) (w92 hw) (by decide) c9 (argsL := []) (CtrN.back (Wd := 0) W3 (rm20 l Z a0 hw gMO a1 a2 k_a2 a3 h3 W3.old c4 c5 c6 MgMO c7 c8) (w160 hw) (w40 hw) (by decide) (by decide)) (by rw [hml]; rfl) (lenOf pd9 rfl) (S := []) rfl (by exact Nat.le_of_eq rfl) (pc' := 50) (hb hy d14_45) rfl (cells' := 1) (slots' := 1) rfl rfl (by decide) (by decide) (wy := []) (fun _ _ _ q => ⟨q.1, q.2.1⟩) all0 (fun _ _ => trivial) ?_
  intro v10 T10 h10 lo10 W10 K10 q10
  obtain ⟨r1_10, r2_10, P10_0, P10_1, P10_2, P10_3, rfl⟩ := q10.2.2
  show Gl _ _ _ _ _ _ _ _ [(.ref r1_10)]
  refine o_static W10 (y := (⟨"java/util/List", "of", "([Ljava/lang/Object;)Ljava/util/List;"⟩ : MethodName)) (w183 hw) (w184 hw) (w73 hw) (w185 hw) (by decide) (argsL := [(.ref r1_10)]) (CtrN.back (Wd := 0) W10 (rm25 l Z a0 hw gO5 r1_10 r2_10 a3 h10 W10.old P10_1 SgO5_EMPTY) (w185 hw) (w73 hw) (by decide) (by decide)) (by rw [hml]; rfl) (lenOf pd16 rfl) (S := []) rfl (by exact Nat.le_of_eq rfl) (pc' := 53) (hb hy d14_50) rfl (cells' := 2) (slots' := 3) rfl rfl (by decide) (by decide) (wy := []) (fun _ _ _ q => ⟨q.1, q.2.1⟩) all0 (fun _ _ => trivial) ?_
  intro v11 T11 h11 lo11 W11 K11 q11
  obtain ⟨r1_11, P11_0, P11_1, P11_2, P11_3, rfl⟩ := q11.2.2
  show Gl _ _ _ _ _ _ _ _ [(.ref r1_11)]
  exact o_retA W11 hlk (v := (.ref r1_11)) hret rfl rfl (hb hy d14_53) (by decide) (by decide) ⟨r1_11, (Nat.le_trans W10.keep.1 P11_0), P11_1, P11_2, P11_3, rfl⟩
theorem rm27 (l : Launch) (Z : State) (a0 : Array Value) (hw : ∀ d ∈ tables_1, d.before a0 Z = true) (gMO gO5 a1 a2 : Addr) (k_a2 : ClassId) (a3 : Addr) (h0 : Heap) (O0 : Old Z Z.heap.size h0) (E_a1 : Exa Z h0 a1 "java/util/ArrayList") (F_a1_size : Fld Z h0 a1 "java/util/ArrayList" "size" "I" (.int 1)) (F_a1_elementData : Fld Z h0 a1 "java/util/ArrayList" "elementData" "[Ljava/lang/Object;" (.ref a2)) (E_a2 : Exa Z h0 a2 "[Ljava/lang/Object;") (MgMO : MirW Z "[Ljava/lang/Object;" gMO) (V_a2 : Arv Z h0 a2 k_a2 (.object "java/lang/Object") (10 : Int32) [(.ref a3), .null, .null, .null, .null, .null, .null, .null, .null, .null] .null) (E_a3 : Exa Z h0 a3 "com/example/sessn/sessn/log/LoggedQuery") (SgO5_EMPTY : Sta Z Z.heap "java/util/ImmutableCollections" "EMPTY" "Ljava/lang/Object;" (.ref gO5)) :
    CtrN l Z (⟨"java/util/List", "copyOf", "(Ljava/util/Collection;)Ljava/util/List;"⟩ : MethodName) jdk_40_method_48_code 1 (some (.object "java/util/List")) [] (⟨7, 2, 3, 88⟩ : Room) #[(.ref a1)] h0 [] (fun v h => ∃ r1 : Addr, h0.size ≤ r1 ∧ Exa Z h r1 "java/util/ImmutableCollections$List12" ∧ Fld Z h r1 "java/util/ImmutableCollections$List12" "e0" "Ljava/lang/Object;" (.ref a3) ∧ Fld Z h r1 "java/util/ImmutableCollections$List12" "e1" "Ljava/lang/Object;" (.ref gO5) ∧ v = some (.ref r1)) := by
  refine CtrN.intro (L0 := #[.val (.ref a1)]) (plainFor_of_name pn4) O0 (own_entry rfl) ?_
  intro p e s m below meth c T0 hy hml hret hlk hnm W0
  refine o_aloadN W0 (pc' := 1) (hb hy d13_0) rfl rfl rfl ?_
  refine o_static W0 (y := (⟨"java/util/ImmutableCollections", "listCopy", "(Ljava/util/Collection;)Ljava/util/List;"⟩ : MethodName)) (w75 hw) (w76 hw) (w77 hw) (w78 hw) (by decide) (argsL := [(.ref a1)]) (CtrN.back (Wd := 0) W0 (rm26 l Z a0 hw gMO gO5 a1 a2 k_a2 a3 h0 W0.old E_a1 F_a1_size F_a1_elementData E_a2 MgMO V_a2 E_a3 SgO5_EMPTY) (w78 hw) (w77 hw) (by decide) (by decide)) (by rw [hml]; rfl) (lenOf pd4 rfl) (S := []) rfl (by exact Nat.le_of_eq rfl) (pc' := 4) (hb hy d13_1) rfl (cells' := 2) (slots' := 3) rfl rfl (by decide) (by decide) (wy := []) (fun _ _ _ q => ⟨q.1, q.2.1⟩) all0 (fun _ _ => trivial) ?_
  intro v1 T1 h1 lo1 W1 K1 q1
  obtain ⟨r1_1, P1_0, P1_1, P1_2, P1_3, rfl⟩ := q1.2.2
  show Gl _ _ _ _ _ _ _ _ [(.ref r1_1)]
  exact o_retA W1 hlk (v := (.ref r1_1)) hret rfl rfl (hb hy d13_4) (by decide) (by decide) ⟨r1_1, (Nat.le_trans W0.keep.1 P1_0), P1_1, P1_2, P1_3, rfl⟩
theorem rm28 (l : Launch) (Z : State) (a0 : Array Value) (hw : ∀ d ∈ tables_1, d.before a0 Z = true) (gMO gO5 a1 a2 a3 a4 : Addr) (k_a4 : ClassId) (a5 : Addr) (h0 : Heap) (O0 : Old Z Z.heap.size h0) (E_a3 : Exa Z h0 a3 "java/util/ArrayList") (F_a3_size : Fld Z h0 a3 "java/util/ArrayList" "size" "I" (.int 1)) (F_a3_elementData : Fld Z h0 a3 "java/util/ArrayList" "elementData" "[Ljava/lang/Object;" (.ref a4)) (E_a4 : Exa Z h0 a4 "[Ljava/lang/Object;") (MgMO : MirW Z "[Ljava/lang/Object;" gMO) (V_a4 : Arv Z h0 a4 k_a4 (.object "java/lang/Object") (10 : Int32) [(.ref a5), .null, .null, .null, .null, .null, .null, .null, .null, .null] .null) (E_a5 : Exa Z h0 a5 "com/example/sessn/sessn/log/LoggedQuery") (SgO5_EMPTY : Sta Z Z.heap "java/util/ImmutableCollections" "EMPTY" "Ljava/lang/Object;" (.ref gO5)) (E_a1 : Exa Z h0 a1 "com/example/sessn/sessn/log/LoggedSession") (F_a1_id : Fld Z h0 a1 "com/example/sessn/sessn/log/LoggedSession" "id" "Ljava/lang/String;" .null) (g_a1 : Z.heap.size ≤ a1) (F_a1_queries : Fld Z h0 a1 "com/example/sessn/sessn/log/LoggedSession" "queries" "Ljava/util/List;" .null) :
    CtrN l Z (⟨"com/example/sessn/sessn/log/LoggedSession", "<init>", "(Ljava/lang/String;Ljava/util/List;)V"⟩ : MethodName) prog_20_method_1_code 3 none [] (⟨8, 2, 3, 100⟩ : Room) #[(.ref a1), (.ref a2), (.ref a3)] h0 [a1] (fun v h => ∃ r1 : Addr, h0.size ≤ r1 ∧ Fld Z h a1 "com/example/sessn/sessn/log/LoggedSession" "id" "Ljava/lang/String;" (.ref a2) ∧ Fld Z h a1 "com/example/sessn/sessn/log/LoggedSession" "queries" "Ljava/util/List;" (.ref r1) ∧ Exa Z h r1 "java/util/ImmutableCollections$List12" ∧ Fld Z h r1 "java/util/ImmutableCollections$List12" "e0" "Ljava/lang/Object;" (.ref a5) ∧ Fld Z h r1 "java/util/ImmutableCollections$List12" "e1" "Ljava/lang/Object;" (.ref gO5) ∧ v = none) := by
  refine CtrN.intro (L0 := #[.val (.ref a1), .val (.ref a2), .val (.ref a3)]) (plainFor_of_name pn13) O0 (own_entry rfl) ?_
  intro p e s m below meth c T0 hy hml hret hlk hnm W0
  refine o_aloadN W0 (pc' := 1) (hb hy d22_0) rfl rfl rfl ?_
  refine o_special W0 (y := (⟨"java/lang/Record", "<init>", "()V"⟩ : MethodName)) rfl (w146 hw) (w66 hw) (w69 hw) (by decide) (a := a1) (argsL := []) (CtrN.back (Wd := 0) W0 (rm4 l Z a0 hw a1 h0 W0.old ) (w69 hw) (w68 hw) (by decide) (by decide)) (by rw [hml]; rfl) (lenOf pd1 rfl) (S := []) rfl (by exact Nat.le_of_eq rfl) (pc' := 4) (hb hy d22_1) rfl (cells' := 0) (slots' := 0) rfl rfl (by decide) (by decide) (wy := []) (fun _ _ _ q => ⟨q.1, q.2.1⟩) all0 (fun _ _ => trivial) ?_
  intro v1 T1 h1 lo1 W1 K1 q1
  obtain rfl := q1.2.2
  show Gl _ _ _ _ _ _ _ _ []
  refine o_aloadN W1 (pc' := 5) (hb hy d22_4) rfl rfl rfl ?_
  have c2 := (E_a3.keep K1)
  have c3 := (F_a3_size.keep K1 nin0)
  refine o_iface W1 (y := (⟨"java/util/List", "isEmpty", "()Z"⟩ : MethodName)) (z := (⟨"java/util/ArrayList", "isEmpty", "()Z"⟩ : MethodName)) (w147 hw) (w148 hw) (w149 hw) (w150 hw) (w89 hw) (w90 hw) (w91 hw) (w151 hw) (by decide) c2 (argsL := []) (CtrN.back (Wd := 0) W1 (rm16 l Z a0 hw a3 h1 W1.old c3) (w93 hw) (w40 hw) (by decide) (by decide)) (by rw [hml]; rfl) (lenOf pd2 rfl) (S := []) rfl (by exact Nat.le_of_eq rfl) (pc' := 10) (hb hy d22_5) rfl (cells' := 0) (slots' := 0) rfl rfl (by decide) (by decide) (wy := []) (fun _ _ _ q => ⟨q.1, q.2.1⟩) all0 (fun _ _ => trivial) ?_
  intro v4 T4 h4 lo4 W4 K4 q4
  obtain rfl := q4.2.2
  show Gl _ _ _ _ _ _ _ _ [(.int 0)]
  refine o_ifY W4 (pc' := 27) (hb hy d22_10) (XT.i0_eq_t (by decide)) (by decide) rfl ?_
  refine o_aloadN W4 (pc' := 28) (hb hy d22_27) rfl rfl rfl ?_
  have c5 := (c3.keep K4 nin0)
  have c6 := ((F_a3_elementData.keep K1 nin0).keep K4 nin0)
  have c7 := ((E_a4.keep K1).keep K4)
  have c8 := ((V_a4.keep K1 nin0).keep K4 nin0)
  have c9 := ((E_a5.keep K1).keep K4)
  have c10 := (c2.keep K4)
  refine o_static W4 (y := (⟨"java/util/List", "copyOf", "(Ljava/util/Collection;)Ljava/util/List;"⟩ : MethodName)) (w152 hw) (w72 hw) (w73 hw) (w74 hw) (by decide) (argsL := [(.ref a3)]) (CtrN.back (Wd := 0) W4 (rm27 l Z a0 hw gMO gO5 a3 a4 k_a4 a5 h4 W4.old c10 c5 c6 c7 MgMO c8 c9 SgO5_EMPTY) (w74 hw) (w73 hw) (by decide) (by decide)) (by rw [hml]; rfl) (lenOf pd4 rfl) (S := []) rfl (by exact Nat.le_of_eq rfl) (pc' := 31) (hb hy d22_28) rfl (cells' := 2) (slots' := 3) rfl rfl (by decide) (by decide) (wy := []) (fun _ _ _ q => ⟨q.1, q.2.1⟩) all0 (fun _ _ => trivial) ?_
  intro v11 T11 h11 lo11 W11 K11 q11
  obtain ⟨r1_11, P11_0, P11_1, P11_2, P11_3, rfl⟩ := q11.2.2
  show Gl _ _ _ _ _ _ _ _ [(.ref r1_11)]
  refine o_astoreN W11 (L' := #[.val (.ref a1), .val (.ref a2), .val (.ref r1_11)]) (pc' := 32) (hb hy d22_31) rfl rfl rfl ?_
  refine o_aloadN W11 (pc' := 33) (hb hy d22_32) rfl rfl rfl ?_
  refine o_aloadN W11 (pc' := 34) (hb hy d22_33) rfl rfl rfl ?_
  have c12 := (((E_a1.keep K1).keep K4).keep K11)
  have c13 := (((F_a1_id.keep K1 nin0).keep K4 nin0).keep K11 nin0)
  refine o_putF W11 (w216 hw) Via.refl c13 c12 (Or.inr ⟨(w217 hw), rfl, hnm⟩) (w138 hw) (ty := (.object "java/lang/String")) (v' := (.ref a2)) (by decide) rfl rfl g_a1 (Or.inl (List.mem_of_getElem? (i := 0) rfl)) (fun _ _ => trivial) (pc' := 37) (hb hy d22_34) rfl ?_
  intro T14 h14 lo14 W14 R14
  have F14 := c13.same R14
  refine o_aloadN W14 (pc' := 38) (hb hy d22_37) rfl rfl rfl ?_
  refine o_aloadN W14 (pc' := 39) (hb hy d22_38) rfl rfl rfl ?_
  have c15 := (c12.wr R14)
  have c16 := ((((F_a1_queries.keep K1 nin0).keep K4 nin0).keep K11 nin0).other R14 (Or.inr (slot_ne (Or.inr (w219 hw)) (Or.inr (w217 hw)) (by decide) (t := (.object "java/util/List")) (t' := (.object "java/lang/String")) (by decide) (by decide))))
  refine o_putF W14 (w218 hw) Via.refl c16 c15 (Or.inr ⟨(w219 hw), rfl, hnm⟩) (w138 hw) (ty := (.object "java/util/List")) (v' := (.ref r1_11)) (by decide) rfl rfl g_a1 (Or.inl (List.mem_of_getElem? (i := 0) rfl)) (fun _ _ => trivial) (pc' := 42) (hb hy d22_39) rfl ?_
  intro T17 h17 lo17 W17 R17
  have F17 := c16.same R17
  have c18 := (F14.other R17 (Or.inr (slot_ne (Or.inr (w217 hw)) (Or.inr (w219 hw)) (by decide) (t := (.object "java/lang/String")) (t' := (.object "java/util/List")) (by decide) (by decide))))
  have c19 := (c15.wr R17)
  have c20 := ((P11_1.wr R14).wr R17)
  have c21 := ((E_a1.keep K1).keep K4)
  have c22 := ((P11_2.other R14 (Or.inl (own_ne' c21.lt P11_0))).other R17 (Or.inl (own_ne' c21.lt P11_0)))
  have c23 := ((P11_3.other R14 (Or.inl (own_ne' c21.lt P11_0))).other R17 (Or.inl (own_ne' c21.lt P11_0)))
  exact o_ret0 W17 hlk hret (hb hy d22_42) (by decide) (by decide) ⟨r1_11, (Nat.le_trans W4.keep.1 P11_0), c18, F17, c20, c22, c23, rfl⟩
theorem rm29 (l : Launch) (Z : State) (a0 : Array Value) (hw : ∀ d ∈ tables_1, d.before a0 Z = true) (a1 a2 a3 : Addr) (k_a3 : ClassId) (h0 : Heap) (O0 : Old Z Z.heap.size h0) (V_a3 : Arv Z h0 a3 k_a3 (.object "java/lang/Object") (10 : Int32) [(.ref a2), .null, .null, .null, .null, .null, .null, .null, .null, .null] .null) (g_a3 : Z.heap.size ≤ a3) (O_a3 : Ovr Z k_a3 "java/lang/Object") (E_a2 : Exa Z h0 a2 "com/example/sessn/sessn/log/LoggedQuery") (E_a1 : Exa Z h0 a1 "java/util/ArrayList") (F_a1_size : Fld Z h0 a1 "java/util/ArrayList" "size" "I" (.int 1)) (E_a3 : Exa Z h0 a3 "[Ljava/lang/Object;") (g_a1 : Z.heap.size ≤ a1) (F_a1_modCount : Fld Z h0 a1 "java/util/AbstractList" "modCount" "I" (.int 2)) (F_a1_elementData : Fld Z h0 a1 "java/util/ArrayList" "elementData" "[Ljava/lang/Object;" (.ref a3)) :
    CtrN l Z (⟨"java/util/ArrayList", "add", "(Ljava/lang/Object;[Ljava/lang/Object;I)V"⟩ : MethodName) jdk_38_method_24_code 4 none [] (⟨0, 0, 0, 0⟩ : Room) #[(.ref a1), (.ref a2), (.ref a3), (.int 1)] h0 [a3, a1] (fun v h => Arv Z h a3 k_a3 (.object "java/lang/Object") (10 : Int32) [(.ref a2), (.ref a2), .null, .null, .null, .null, .null, .null, .null, .null] .null ∧ Fld Z h a1 "java/util/ArrayList" "size" "I" (.int 2) ∧ Fld Z h a1 "java/util/AbstractList" "modCount" "I" (.int 2) ∧ Fld Z h a1 "java/util/ArrayList" "elementData" "[Ljava/lang/Object;" (.ref a3) ∧ v = none) := by
  refine CtrN.intro (L0 := #[.val (.ref a1), .val (.ref a2), .val (.ref a3), .val (.int 1)]) (plainFor_of_name pn2) O0 (own_entry rfl) ?_
  intro p e s m below meth c T0 hy hml hret hlk hnm W0
  refine o_iloadN W0 (pc' := 1) (hb hy d18_0) rfl rfl ?_
  refine o_aloadN W0 (pc' := 2) (hb hy d18_1) rfl rfl rfl ?_
  refine o_len W0 V_a3 (pc' := 3) (hb hy d18_2) rfl ?_
  refine o_icmpY W0 (pc' := 11) (hb hy d18_3) (XT.ii_ne_t (by decide)) (by decide) rfl ?_
  refine o_aloadN W0 (pc' := 12) (hb hy d18_11) rfl rfl rfl ?_
  refine o_iloadN W0 (pc' := 13) (hb hy d18_12) rfl rfl ?_
  refine o_aloadN W0 (pc' := 14) (hb hy d18_13) rfl rfl rfl ?_
  refine o_stR W0 V_a3 (i := 1) rfl rfl (own_stoV V_a3 O_a3 (Ins.of_exa E_a2 (w136 hw))) (by decide) (by decide) (by decide) (Nat.lt_of_sub_eq_succ rfl) (vs' := [(.ref a2), (.ref a2), .null, .null, .null, .null, .null, .null, .null, .null]) rfl g_a3 (Or.inl (List.mem_of_getElem? (i := 0) rfl)) (fun _ _ => trivial) (pc' := 15) (hb hy d18_14) rfl ?_
  intro T1 h1 lo1 W1 R1 V1
  refine o_aloadN W1 (pc' := 16) (hb hy d18_15) rfl rfl rfl ?_
  refine o_iloadN W1 (pc' := 17) (hb hy d18_16) rfl rfl ?_
  refine o_iconst W1 (v := 1) (pc' := 18) (hb hy d18_17) rfl rfl ?_
  refine o_iadd W1 (v := 2) (pc' := 19) (hb hy d18_18) (by decide) rfl ?_
  have c2 := (E_a1.wr R1)
  have c3 := (E_a3.wr R1)
  have c4 := (F_a1_size.other R1 (Or.inl (Exa.ne E_a1 E_a3 (by decide))))
  refine o_putF W1 (w94 hw) Via.refl c4 c2 (Or.inl (w95 hw)) (w39 hw) (ty := .int) (v' := (.int 2)) (by decide) rfl rfl g_a1 (Or.inl (List.mem_of_getElem? (i := 1) rfl)) (fun _ _ => trivial) (pc' := 22) (hb hy d18_19) rfl ?_
  intro T5 h5 lo5 W5 R5
  have F5 := c4.same R5
  have c6 := (c2.wr R5)
  have c7 := (c3.wr R5)
  have c8 := ((F_a1_modCount.other R1 (Or.inl (Exa.ne E_a1 E_a3 (by decide)))).other R5 (Or.inr (slot_ne (Or.inl (w58 hw)) (Or.inl (w95 hw)) (by decide) (t := .int) (t' := .int) (by decide) (by decide))))
  have c9 := ((F_a1_elementData.other R1 (Or.inl (Exa.ne E_a1 E_a3 (by decide)))).other R5 (Or.inr (slot_ne (Or.inl (w61 hw)) (Or.inl (w95 hw)) (by decide) (t := (.array (.object "java/lang/Object"))) (t' := .int) (by decide) (by decide))))
  have c10 := (V1.other R5 (Exa.ne c3 c2 (by decide)))
  exact o_ret0 W5 hlk hret (hb hy d18_22) (by decide) (by decide) ⟨c10, F5, c8, c9, rfl⟩
theorem rm30 (l : Launch) (Z : State) (a0 : Array Value) (hw : ∀ d ∈ tables_1, d.before a0 Z = true) (a1 a2 a3 : Addr) (k_a3 : ClassId) (h0 : Heap) (O0 : Old Z Z.heap.size h0) (F_a1_modCount : Fld Z h0 a1 "java/util/AbstractList" "modCount" "I" (.int 1)) (E_a1 : Exa Z h0 a1 "java/util/ArrayList") (g_a1 : Z.heap.size ≤ a1) (F_a1_elementData : Fld Z h0 a1 "java/util/ArrayList" "elementData" "[Ljava/lang/Object;" (.ref a3)) (F_a1_size : Fld Z h0 a1 "java/util/ArrayList" "size" "I" (.int 1)) (V_a3 : Arv Z h0 a3 k_a3 (.object "java/lang/Object") (10 : Int32) [(.ref a2), .null, .null, .null, .null, .null, .null, .null, .null, .null] .null) (E_a3 : Exa Z h0 a3 "[Ljava/lang/Object;") (O_a3 : Ovr Z k_a3 "java/lang/Object") (E_a2 : Exa Z h0 a2 "com/example/sessn/sessn/log/LoggedQuery") (g_a3 : Z.heap.size ≤ a3) :
    CtrN l Z (⟨"java/util/ArrayList", "add", "(Ljava/lang/Object;)Z"⟩ : MethodName) jdk_38_method_25_code 2 (some .boolean) [] (⟨1, 0, 0, 15⟩ : Room) #[(.ref a1), (.ref a2)] h0 [a1, a3] (fun v h => Fld Z h a1 "java/util/AbstractList" "modCount" "I" (.int 2) ∧ Fld Z h a1 "java/util/ArrayList" "elementData" "[Ljava/lang/Object;" (.ref a3) ∧ Fld Z h a1 "java/util/ArrayList" "size" "I" (.int 2) ∧ Arv Z h a3 k_a3 (.object "java/lang/Object") (10 : Int32) [(.ref a2), (.ref a2), .null, .null, .null, .null, .null, .null, .null, .null] .null ∧ v = some (.int 1)) := by
  refine CtrN.intro (L0 := #[.val (.ref a1), .val (.ref a2)]) (plainFor_of_name pn2) O0 (own_entry rfl) ?_
  intro p e s m below meth c T0 hy hml hret hlk hnm W0
  refine o_aloadN W0 (pc' := 1) (hb hy d17_0) rfl rfl rfl ?_
  refine o_dup W0 (pc' := 2) (hb hy d17_1) rfl rfl ?_
  refine o_getF W0 (w113 hw) (Via.of (w114 hw)) F_a1_modCount (pc' := 5) (hb hy d17_2) rfl ?_
  intro T1 W1
  refine o_iconst W1 (v := 1) (pc' := 6) (hb hy d17_5) rfl rfl ?_
  refine o_iadd W1 (v := 2) (pc' := 7) (hb hy d17_6) (by decide) rfl ?_
  refine o_putF W1 (w113 hw) (Via.of (w114 hw)) F_a1_modCount E_a1 (Or.inl (w58 hw)) (w39 hw) (ty := .int) (v' := (.int 2)) (by decide) rfl rfl g_a1 (Or.inl (List.mem_of_getElem? (i := 0) rfl)) (fun _ _ => trivial) (pc' := 10) (hb hy d17_7) rfl ?_
  intro T2 h2 lo2 W2 R2
  have F2 := F_a1_modCount.same R2
  refine o_aloadN W2 (pc' := 11) (hb hy d17_10) rfl rfl rfl ?_
  refine o_aloadN W2 (pc' := 12) (hb hy d17_11) rfl rfl rfl ?_
  refine o_aloadN W2 (pc' := 13) (hb hy d17_12) rfl rfl rfl ?_
  have c3 := (F_a1_elementData.other R2 (Or.inr (slot_ne (Or.inl (w61 hw)) (Or.inl (w58 hw)) (by decide) (t := (.array (.object "java/lang/Object"))) (t' := .int) (by decide) (by decide))))
  refine o_getF W2 (w60 hw) Via.refl c3 (pc' := 16) (hb hy d17_13) rfl ?_
  intro T4 W4
  refine o_aloadN W4 (pc' := 17) (hb hy d17_16) rfl rfl rfl ?_
  have c5 := (F_a1_size.other R2 (Or.inr (slot_ne (Or.inl (w95 hw)) (Or.inl (w58 hw)) (by decide) (t := .int) (t' := .int) (by decide) (by decide))))
  refine o_getF W4 (w94 hw) Via.refl c5 (pc' := 20) (hb hy d17_17) rfl ?_
  intro T6 W6
  have c7 := (E_a3.wr R2)
  have c8 := (E_a1.wr R2)
  have c9 := (V_a3.other R2 (Exa.ne E_a3 E_a1 (by decide)))
  have c10 := (E_a2.wr R2)
  refine o_private W6 (y := (⟨"java/util/ArrayList", "add", "(Ljava/lang/Object;[Ljava/lang/Object;I)V"⟩ : MethodName)) (w115 hw) (w116 hw) (w118 hw) (w117 hw) (w119 hw) (by decide) c8 (argsL := [(.ref a2), (.ref a3), (.int 1)]) (CtrN.back (Wd := 0) W6 (rm29 l Z a0 hw a1 a2 a3 k_a3 h2 W6.old c9 g_a3 O_a3 c10 c8 c5 c7 g_a1 F2 c3) (w119 hw) (w40 hw) (by decide) (by decide)) (by rw [hml]; rfl) (lenOf pd10 rfl) (S := []) rfl (by exact Nat.le_of_eq rfl) (pc' := 23) (hb hy d17_20) rfl (cells' := 0) (slots' := 0) rfl rfl (by decide) (by decide) (wy := [a3, a1]) (fun _ _ _ q => ⟨q.1, q.2.1⟩) (allS ⟨g_a3, (Or.inl (List.mem_of_getElem? (i := 1) rfl))⟩ (allS ⟨g_a1, (Or.inl (List.mem_of_getElem? (i := 0) rfl))⟩ all0)) (fun _ _ => trivial) ?_
  intro v11 T11 h11 lo11 W11 K11 q11
  obtain ⟨P11_0, P11_1, P11_2, P11_3, rfl⟩ := q11.2.2
  show Gl _ _ _ _ _ _ _ _ []
  refine o_iconst W11 (v := 1) (pc' := 24) (hb hy d17_23) rfl rfl ?_
  have c12 := (c8.keep K11)
  have c13 := (c7.keep K11)
  exact o_retN W11 hlk (t := .boolean) hret (by simp) (z' := (1 : Int32)) (by decide) (hb hy d17_24) (by decide) (by decide) ⟨P11_2, P11_3, P11_1, P11_0, rfl⟩
theorem rm31 (l : Launch) (Z : State) (a0 : Array Value) (hw : ∀ d ∈ tables_1, d.before a0 Z = true) (gO5 a1 : Addr) (h0 : Heap) (O0 : Old Z Z.heap.size h0) (F_a1_e1 : Fld Z h0 a1 "java/util/ImmutableCollections$List12" "e1" "Ljava/lang/Object;" (.ref gO5)) (SgO5_EMPTY : Sta Z Z.heap "java/util/ImmutableCollections" "EMPTY" "Ljava/lang/Object;" (.ref gO5)) :
    CtrN l Z (⟨"java/util/ImmutableCollections$List12", "size", "()I"⟩ : MethodName) jdk_44_method_3_code 1 (some .int) [] (⟨0, 0, 0, 0⟩ : Room) #[(.ref a1)] h0 [] (fun v h => v = some (.int 1)) := by
  refine CtrN.intro (L0 := #[.val (.ref a1)]) (plainFor_of_name pn12) O0 (own_entry rfl) ?_
  intro p e s m below meth c T0 hy hml hret hlk hnm W0
  refine o_aloadN W0 (pc' := 1) (hb hy d33_0) rfl rfl rfl ?_
  refine o_getF W0 (w214 hw) Via.refl F_a1_e1 (pc' := 4) (hb hy d33_1) rfl ?_
  intro T1 W1
  refine o_getSN W1 (w213 hw) Via.refl (SgO5_EMPTY.ext W1.ox) (pc' := 7) (hb hy d33_4) rfl ?_
  intro T2 W2
  refine o_acmpY W2 (pc' := 14) (hb hy d33_7) rfl rfl (XT.aa_eq_t rfl) (by decide) rfl ?_
  refine o_iconst W2 (v := 1) (pc' := 15) (hb hy d33_14) rfl rfl ?_
  exact o_retI W2 hlk hret (hb hy d33_15) (by decide) (by decide) rfl
theorem rm32 (l : Launch) (Z : State) (a0 : Array Value) (hw : ∀ d ∈ tables_1, d.before a0 Z = true) (a1 a2 : Addr) (h0 : Heap) (O0 : Old Z Z.heap.size h0) (F_a1_e0 : Fld Z h0 a1 "java/util/ImmutableCollections$List12" "e0" "Ljava/lang/Object;" (.ref a2)) :
    CtrN l Z (⟨"java/util/ImmutableCollections$List12", "get", "(I)Ljava/lang/Object;"⟩ : MethodName) jdk_44_method_5_code 2 (some (.object "java/lang/Object")) [] (⟨0, 0, 0, 0⟩ : Room) #[(.ref a1), (.int 0)] h0 [] (fun v h => v = some (.ref a2)) := by
  refine CtrN.intro (L0 := #[.val (.ref a1), .val (.int 0)]) (plainFor_of_name pn12) O0 (own_entry rfl) ?_
  intro p e s m below meth c T0 hy hml hret hlk hnm W0
  refine o_iloadN W0 (pc' := 1) (hb hy d34_0) rfl rfl ?_
  refine o_ifN W0 (pc' := 4) (hb hy d34_1) (XT.i0_ne_f (by decide)) rfl ?_
  refine o_aloadN W0 (pc' := 5) (hb hy d34_4) rfl rfl rfl ?_
  refine o_getF W0 (w211 hw) Via.refl F_a1_e0 (pc' := 8) (hb hy d34_5) rfl ?_
  intro T1 W1
  exact o_retA W1 hlk (v := (.ref a2)) hret rfl rfl (hb hy d34_8) (by decide) (by decide) rfl
theorem rm33 (l : Launch) (Z : State) (a0 : Array Value) (hw : ∀ d ∈ tables_1, d.before a0 Z = true) (gO5 a1 a2 a3 : Addr) (h0 : Heap) (O0 : Old Z Z.heap.size h0) (F_a1_queries : Fld Z h0 a1 "com/example/sessn/sessn/log/LoggedSession" "queries" "Ljava/util/List;" (.ref a2)) (E_a2 : Exa Z h0 a2 "java/util/ImmutableCollections$List12") (F_a2_e1 : Fld Z h0 a2 "java/util/ImmutableCollections$List12" "e1" "Ljava/lang/Object;" (.ref gO5)) (SgO5_EMPTY : Sta Z Z.heap "java/util/ImmutableCollections" "EMPTY" "Ljava/lang/Object;" (.ref gO5)) (F_a2_e0 : Fld Z h0 a2 "java/util/ImmutableCollections$List12" "e0" "Ljava/lang/Object;" (.ref a3)) (E_a3 : Exa Z h0 a3 "com/example/sessn/sessn/log/LoggedQuery") :
    CtrN l Z (⟨"com/example/sessn/sessn/log/LoggedSession", "current", "()Lcom/example/sessn/sessn/log/LoggedQuery;"⟩ : MethodName) prog_20_method_3_code 1 (some (.object "com/example/sessn/sessn/log/LoggedQuery")) [] (⟨1, 0, 0, 13⟩ : Room) #[(.ref a1)] h0 [] (fun v h => v = some (.ref a3)) := by
  refine CtrN.intro (L0 := #[.val (.ref a1)]) (plainFor_of_name pn13) O0 (own_entry rfl) ?_
  intro p e s m below meth c T0 hy hml hret hlk hnm W0
  refine o_aloadN W0 (pc' := 1) (hb hy d32_0) rfl rfl rfl ?_
  refine o_getF W0 (w218 hw) Via.refl F_a1_queries (pc' := 4) (hb hy d32_1) rfl ?_
  intro T1 W1
  refine o_aloadN W1 (pc' := 5) (hb hy d32_4) rfl rfl rfl ?_
  refine o_getF W1 (w218 hw) Via.refl F_a1_queries (pc' := 8) (hb hy d32_5) rfl ?_
  intro T2 W2
  refine o_iface W2 (y := (⟨"java/util/List", "size", "()I"⟩ : MethodName)) (z := (⟨"java/util/ImmutableCollections$List12", "size", "()I"⟩ : MethodName)) (w225 hw) (w226 hw) (w227 hw) (w228 hw) (w229 hw) (w230 hw) (w231 hw) (w232 hw) (by decide) E_a2 (argsL := []) (CtrN.back (Wd := 1) W2 (rm31 l Z a0 hw gO5 a2 h0 W2.old F_a2_e1 SgO5_EMPTY) (w233 hw) (w188 hw) (by decide) (by decide)) (by rw [hml]; rfl) (lenOf pd18 rfl) (S := [(.ref a2)]) rfl (by exact Nat.le_of_eq rfl) (pc' := 13) (hb hy d32_8) rfl (cells' := 0) (slots' := 0) rfl rfl (by decide) (by decide) (wy := []) (fun _ _ _ q => ⟨q.1, q.2.1⟩) all0 (fun _ _ => trivial) ?_
  intro v3 T3 h3 lo3 W3 K3 q3
  obtain rfl := q3.2.2
  show Gl _ _ _ _ _ _ _ _ [(.int 1), (.ref a2)]
  refine o_iconst W3 (v := 1) (pc' := 14) (hb hy d32_13) rfl rfl ?_
  refine o_isub W3 (v := 0) (pc' := 15) (hb hy d32_14) (by decide) rfl ?_
  have c4 := (F_a2_e0.keep K3 nin0)
  have c5 := (E_a2.keep K3)
  refine o_iface W3 (y := (⟨"java/util/List", "get", "(I)Ljava/lang/Object;"⟩ : MethodName)) (z := (⟨"java/util/ImmutableCollections$List12", "get", "(I)Ljava/lang/Object;"⟩ : MethodName)) (w234 hw) (w235 hw) (w236 hw) (w237 hw) (w238 hw) (w239 hw) (w240 hw) (w232 hw) (by decide) c5 (argsL := [(.int 0)]) (CtrN.back (Wd := 0) W3 (rm32 l Z a0 hw a2 a3 h3 W3.old c4) (w241 hw) (w188 hw) (by decide) (by decide)) (by rw [hml]; rfl) (lenOf pd19 rfl) (S := []) rfl (by exact Nat.le_of_eq rfl) (pc' := 20) (hb hy d32_15) rfl (cells' := 0) (slots' := 0) rfl rfl (by decide) (by decide) (wy := []) (fun _ _ _ q => ⟨q.1, q.2.1⟩) all0 (fun _ _ => trivial) ?_
  intro v6 T6 h6 lo6 W6 K6 q6
  obtain rfl := q6.2.2
  show Gl _ _ _ _ _ _ _ _ [(.ref a3)]
  have c7 := ((E_a3.keep K3).keep K6)
  refine o_cast W6 (w242 hw) (Ins.self c7) (pc' := 23) (hb hy d32_20) rfl ?_
  intro T8 W8
  exact o_retA W8 hlk (v := (.ref a3)) hret rfl rfl (hb hy d32_23) (by decide) (by decide) rfl
theorem rm34 (l : Launch) (Z : State) (a0 : Array Value) (hw : ∀ d ∈ tables_1, d.before a0 Z = true) (a1 a2 a3 : Addr) (k_a3 : ClassId) (a4 : Addr) (h0 : Heap) (O0 : Old Z Z.heap.size h0) (V_a3 : Arv Z h0 a3 k_a3 (.object "java/lang/Object") (10 : Int32) [(.ref a4), .null, .null, .null, .null, .null, .null, .null, .null, .null] .null) (g_a3 : Z.heap.size ≤ a3) (O_a3 : Ovr Z k_a3 "java/lang/Object") (E_a2 : Exa Z h0 a2 "com/example/sessn/sessn/log/LoggedQuery") (E_a1 : Exa Z h0 a1 "java/util/ArrayList") (F_a1_size : Fld Z h0 a1 "java/util/ArrayList" "size" "I" (.int 1)) (E_a3 : Exa Z h0 a3 "[Ljava/lang/Object;") (g_a1 : Z.heap.size ≤ a1) (F_a1_modCount : Fld Z h0 a1 "java/util/AbstractList" "modCount" "I" (.int 2)) (F_a1_elementData : Fld Z h0 a1 "java/util/ArrayList" "elementData" "[Ljava/lang/Object;" (.ref a3)) :
    CtrN l Z (⟨"java/util/ArrayList", "add", "(Ljava/lang/Object;[Ljava/lang/Object;I)V"⟩ : MethodName) jdk_38_method_24_code 4 none [] (⟨0, 0, 0, 0⟩ : Room) #[(.ref a1), (.ref a2), (.ref a3), (.int 1)] h0 [a3, a1] (fun v h => Arv Z h a3 k_a3 (.object "java/lang/Object") (10 : Int32) [(.ref a4), (.ref a2), .null, .null, .null, .null, .null, .null, .null, .null] .null ∧ Fld Z h a1 "java/util/ArrayList" "size" "I" (.int 2) ∧ Fld Z h a1 "java/util/AbstractList" "modCount" "I" (.int 2) ∧ Fld Z h a1 "java/util/ArrayList" "elementData" "[Ljava/lang/Object;" (.ref a3) ∧ v = none) := by
  refine CtrN.intro (L0 := #[.val (.ref a1), .val (.ref a2), .val (.ref a3), .val (.int 1)]) (plainFor_of_name pn2) O0 (own_entry rfl) ?_
  intro p e s m below meth c T0 hy hml hret hlk hnm W0
  refine o_iloadN W0 (pc' := 1) (hb hy d18_0) rfl rfl ?_
  refine o_aloadN W0 (pc' := 2) (hb hy d18_1) rfl rfl rfl ?_
  refine o_len W0 V_a3 (pc' := 3) (hb hy d18_2) rfl ?_
  refine o_icmpY W0 (pc' := 11) (hb hy d18_3) (XT.ii_ne_t (by decide)) (by decide) rfl ?_
  refine o_aloadN W0 (pc' := 12) (hb hy d18_11) rfl rfl rfl ?_
  refine o_iloadN W0 (pc' := 13) (hb hy d18_12) rfl rfl ?_
  refine o_aloadN W0 (pc' := 14) (hb hy d18_13) rfl rfl rfl ?_
  refine o_stR W0 V_a3 (i := 1) rfl rfl (own_stoV V_a3 O_a3 (Ins.of_exa E_a2 (w136 hw))) (by decide) (by decide) (by decide) (Nat.lt_of_sub_eq_succ rfl) (vs' := [(.ref a4), (.ref a2), .null, .null, .null, .null, .null, .null, .null, .null]) rfl g_a3 (Or.inl (List.mem_of_getElem? (i := 0) rfl)) (fun _ _ => trivial) (pc' := 15) (hb hy d18_14) rfl ?_
  intro T1 h1 lo1 W1 R1 V1
  refine o_aloadN W1 (pc' := 16) (hb hy d18_15) rfl rfl rfl ?_
  refine o_iloadN W1 (pc' := 17) (hb hy d18_16) rfl rfl ?_
  refine o_iconst W1 (v := 1) (pc' := 18) (hb hy d18_17) rfl rfl ?_
  refine o_iadd W1 (v := 2) (pc' := 19) (hb hy d18_18) (by decide) rfl ?_
  have c2 := (E_a1.wr R1)
  have c3 := (E_a3.wr R1)
  have c4 := (F_a1_size.other R1 (Or.inl (Exa.ne E_a1 E_a3 (by decide))))
  refine o_putF W1 (w94 hw) Via.refl c4 c2 (Or.inl (w95 hw)) (w39 hw) (ty := .int) (v' := (.int 2)) (by decide) rfl rfl g_a1 (Or.inl (List.mem_of_getElem? (i := 1) rfl)) (fun _ _ => trivial) (pc' := 22) (hb hy d18_19) rfl ?_
  intro T5 h5 lo5 W5 R5
  have F5 := c4.same R5
  have c6 := (c2.wr R5)
  have c7 := (c3.wr R5)
  have c8 := ((F_a1_modCount.other R1 (Or.inl (Exa.ne E_a1 E_a3 (by decide)))).other R5 (Or.inr (slot_ne (Or.inl (w58 hw)) (Or.inl (w95 hw)) (by decide) (t := .int) (t' := .int) (by decide) (by decide))))
  have c9 := ((F_a1_elementData.other R1 (Or.inl (Exa.ne E_a1 E_a3 (by decide)))).other R5 (Or.inr (slot_ne (Or.inl (w61 hw)) (Or.inl (w95 hw)) (by decide) (t := (.array (.object "java/lang/Object"))) (t' := .int) (by decide) (by decide))))
  have c10 := (V1.other R5 (Exa.ne c3 c2 (by decide)))
  exact o_ret0 W5 hlk hret (hb hy d18_22) (by decide) (by decide) ⟨c10, F5, c8, c9, rfl⟩
theorem rm35 (l : Launch) (Z : State) (a0 : Array Value) (hw : ∀ d ∈ tables_1, d.before a0 Z = true) (a1 a2 a3 : Addr) (k_a3 : ClassId) (a4 : Addr) (h0 : Heap) (O0 : Old Z Z.heap.size h0) (F_a1_modCount : Fld Z h0 a1 "java/util/AbstractList" "modCount" "I" (.int 1)) (E_a1 : Exa Z h0 a1 "java/util/ArrayList") (g_a1 : Z.heap.size ≤ a1) (F_a1_elementData : Fld Z h0 a1 "java/util/ArrayList" "elementData" "[Ljava/lang/Object;" (.ref a3)) (F_a1_size : Fld Z h0 a1 "java/util/ArrayList" "size" "I" (.int 1)) (V_a3 : Arv Z h0 a3 k_a3 (.object "java/lang/Object") (10 : Int32) [(.ref a4), .null, .null, .null, .null, .null, .null, .null, .null, .null] .null) (E_a3 : Exa Z h0 a3 "[Ljava/lang/Object;") (O_a3 : Ovr Z k_a3 "java/lang/Object") (E_a2 : Exa Z h0 a2 "com/example/sessn/sessn/log/LoggedQuery") (g_a3 : Z.heap.size ≤ a3) :
    CtrN l Z (⟨"java/util/ArrayList", "add", "(Ljava/lang/Object;)Z"⟩ : MethodName) jdk_38_method_25_code 2 (some .boolean) [] (⟨1, 0, 0, 15⟩ : Room) #[(.ref a1), (.ref a2)] h0 [a1, a3] (fun v h => Fld Z h a1 "java/util/AbstractList" "modCount" "I" (.int 2) ∧ Fld Z h a1 "java/util/ArrayList" "elementData" "[Ljava/lang/Object;" (.ref a3) ∧ Fld Z h a1 "java/util/ArrayList" "size" "I" (.int 2) ∧ Arv Z h a3 k_a3 (.object "java/lang/Object") (10 : Int32) [(.ref a4), (.ref a2), .null, .null, .null, .null, .null, .null, .null, .null] .null ∧ v = some (.int 1)) := by
  refine CtrN.intro (L0 := #[.val (.ref a1), .val (.ref a2)]) (plainFor_of_name pn2) O0 (own_entry rfl) ?_
  intro p e s m below meth c T0 hy hml hret hlk hnm W0
  refine o_aloadN W0 (pc' := 1) (hb hy d17_0) rfl rfl rfl ?_
  refine o_dup W0 (pc' := 2) (hb hy d17_1) rfl rfl ?_
  refine o_getF W0 (w113 hw) (Via.of (w114 hw)) F_a1_modCount (pc' := 5) (hb hy d17_2) rfl ?_
  intro T1 W1
  refine o_iconst W1 (v := 1) (pc' := 6) (hb hy d17_5) rfl rfl ?_
  refine o_iadd W1 (v := 2) (pc' := 7) (hb hy d17_6) (by decide) rfl ?_
  refine o_putF W1 (w113 hw) (Via.of (w114 hw)) F_a1_modCount E_a1 (Or.inl (w58 hw)) (w39 hw) (ty := .int) (v' := (.int 2)) (by decide) rfl rfl g_a1 (Or.inl (List.mem_of_getElem? (i := 0) rfl)) (fun _ _ => trivial) (pc' := 10) (hb hy d17_7) rfl ?_
  intro T2 h2 lo2 W2 R2
  have F2 := F_a1_modCount.same R2
  refine o_aloadN W2 (pc' := 11) (hb hy d17_10) rfl rfl rfl ?_
  refine o_aloadN W2 (pc' := 12) (hb hy d17_11) rfl rfl rfl ?_
  refine o_aloadN W2 (pc' := 13) (hb hy d17_12) rfl rfl rfl ?_
  have c3 := (F_a1_elementData.other R2 (Or.inr (slot_ne (Or.inl (w61 hw)) (Or.inl (w58 hw)) (by decide) (t := (.array (.object "java/lang/Object"))) (t' := .int) (by decide) (by decide))))
  refine o_getF W2 (w60 hw) Via.refl c3 (pc' := 16) (hb hy d17_13) rfl ?_
  intro T4 W4
  refine o_aloadN W4 (pc' := 17) (hb hy d17_16) rfl rfl rfl ?_
  have c5 := (F_a1_size.other R2 (Or.inr (slot_ne (Or.inl (w95 hw)) (Or.inl (w58 hw)) (by decide) (t := .int) (t' := .int) (by decide) (by decide))))
  refine o_getF W4 (w94 hw) Via.refl c5 (pc' := 20) (hb hy d17_17) rfl ?_
  intro T6 W6
  have c7 := (E_a3.wr R2)
  have c8 := (E_a1.wr R2)
  have c9 := (V_a3.other R2 (Exa.ne E_a3 E_a1 (by decide)))
  have c10 := (E_a2.wr R2)
  refine o_private W6 (y := (⟨"java/util/ArrayList", "add", "(Ljava/lang/Object;[Ljava/lang/Object;I)V"⟩ : MethodName)) (w115 hw) (w116 hw) (w118 hw) (w117 hw) (w119 hw) (by decide) c8 (argsL := [(.ref a2), (.ref a3), (.int 1)]) (CtrN.back (Wd := 0) W6 (rm34 l Z a0 hw a1 a2 a3 k_a3 a4 h2 W6.old c9 g_a3 O_a3 c10 c8 c5 c7 g_a1 F2 c3) (w119 hw) (w40 hw) (by decide) (by decide)) (by rw [hml]; rfl) (lenOf pd10 rfl) (S := []) rfl (by exact Nat.le_of_eq rfl) (pc' := 23) (hb hy d17_20) rfl (cells' := 0) (slots' := 0) rfl rfl (by decide) (by decide) (wy := [a3, a1]) (fun _ _ _ q => ⟨q.1, q.2.1⟩) (allS ⟨g_a3, (Or.inl (List.mem_of_getElem? (i := 1) rfl))⟩ (allS ⟨g_a1, (Or.inl (List.mem_of_getElem? (i := 0) rfl))⟩ all0)) (fun _ _ => trivial) ?_
  intro v11 T11 h11 lo11 W11 K11 q11
  obtain ⟨P11_0, P11_1, P11_2, P11_3, rfl⟩ := q11.2.2
  show Gl _ _ _ _ _ _ _ _ []
  refine o_iconst W11 (v := 1) (pc' := 24) (hb hy d17_23) rfl rfl ?_
  have c12 := (c8.keep K11)
  have c13 := (c7.keep K11)
  exact o_retN W11 hlk (t := .boolean) hret (by simp) (z' := (1 : Int32)) (by decide) (hb hy d17_24) (by decide) (by decide) ⟨P11_2, P11_3, P11_1, P11_0, rfl⟩
theorem rm36 (l : Launch) (Z : State) (a0 : Array Value) (hw : ∀ d ∈ tables_1, d.before a0 Z = true) (a1 : Addr) (h0 : Heap) (O0 : Old Z Z.heap.size h0) (F_a1_size : Fld Z h0 a1 "java/util/ArrayList" "size" "I" (.int 2)) :
    CtrN l Z (⟨"java/util/ArrayList", "isEmpty", "()Z"⟩ : MethodName) jdk_38_method_9_code 1 (some .boolean) [] (⟨0, 0, 0, 0⟩ : Room) #[(.ref a1)] h0 [] (fun v h => v = some (.int 0)) := by
  refine CtrN.intro (L0 := #[.val (.ref a1)]) (plainFor_of_name pn2) O0 (own_entry rfl) ?_
  intro p e s m below meth c T0 hy hml hret hlk hnm W0
  refine o_aloadN W0 (pc' := 1) (hb hy d15_0) rfl rfl rfl ?_
  refine o_getF W0 (w94 hw) Via.refl F_a1_size (pc' := 4) (hb hy d15_1) rfl ?_
  intro T1 W1
  refine o_ifY W1 (pc' := 11) (hb hy d15_4) (XT.i0_ne_t (by decide)) (by decide) rfl ?_
  refine o_iconst W1 (v := 0) (pc' := 12) (hb hy d15_11) rfl rfl ?_
  exact o_retN W1 hlk (t := .boolean) hret (by simp) (z' := (0 : Int32)) (by decide) (hb hy d15_12) (by decide) (by decide) rfl
theorem rm37 (l : Launch) (Z : State) (a0 : Array Value) (hw : ∀ d ∈ tables_1, d.before a0 Z = true)  (h0 : Heap) (O0 : Old Z Z.heap.size h0) :
    CtrN l Z (⟨"java/lang/Math", "min", "(II)I"⟩ : MethodName) jdk_29_method_69_code 2 (some .int) [] (⟨0, 0, 0, 0⟩ : Room) #[(.int 10), (.int 2)] h0 [] (fun v h => v = some (.int 2)) := by
  refine CtrN.intro (L0 := #[.val (.int 10), .val (.int 2)]) (Jvm.Free.JP.mathPlain rfl (by decide +kernel)) O0 (own_entry rfl) ?_
  intro p e s m below meth c T0 hy hml hret hlk hnm W0
  refine o_iloadN W0 (pc' := 1) (hb hy d26_0) rfl rfl ?_
  refine o_iloadN W0 (pc' := 2) (hb hy d26_1) rfl rfl ?_
  refine o_icmpY W0 (pc' := 9) (hb hy d26_2) (XT.ii_gt_t (by decide)) (by decide) rfl ?_
  refine o_iloadN W0 (pc' := 10) (hb hy d26_9) rfl rfl ?_
  exact o_retI W0 hlk hret (hb hy d26_10) (by decide) (by decide) rfl
theorem rm38 (l : Launch) (Z : State) (a0 : Array Value) (hw : ∀ d ∈ tables_1, d.before a0 Z = true) (gMO a1 : Addr) (k_a1 : ClassId) (a2 a3 : Addr) (h0 : Heap) (O0 : Old Z Z.heap.size h0) (MgMO : MirW Z "[Ljava/lang/Object;" gMO) (V_a1 : Arv Z h0 a1 k_a1 (.object "java/lang/Object") (10 : Int32) [(.ref a2), (.ref a3), .null, .null, .null, .null, .null, .null, .null, .null] .null) (E_a3 : Exa Z h0 a3 "com/example/sessn/sessn/log/LoggedQuery") (E_a2 : Exa Z h0 a2 "com/example/sessn/sessn/log/LoggedQuery") :
    CtrN l Z (⟨"java/util/Arrays", "copyOf", "([Ljava/lang/Object;ILjava/lang/Class;)[Ljava/lang/Object;"⟩ : MethodName) jdk_65_method_120_code 4 (some (.array (.object "java/lang/Object"))) [] (⟨1, 1, 2, 27⟩ : Room) #[(.ref a1), (.int 2), (.ref gMO)] h0 [] (fun v h => ∃ r1 : Addr, ∃ r2 : ClassId, h0.size ≤ r1 ∧ Arv Z h r1 r2 (.object "java/lang/Object") (2 : Int32) [(.ref a2), (.ref a3)] .null ∧ Ovr Z r2 "java/lang/Object" ∧ Exa Z h r1 "[Ljava/lang/Object;" ∧ v = some (.ref r1)) := by
  refine CtrN.intro (L0 := #[.val (.ref a1), .val (.int 2), .val (.ref gMO), .unset]) (plainFor_of_name pn8) O0 (own_entry rfl) ?_
  intro p e s m below meth c T0 hy hml hret hlk hnm W0
  refine o_aloadN W0 (pc' := 1) (hb hy d25_0) rfl rfl rfl ?_
  refine o_ldcM W0 (w174 hw) MgMO (pc' := 3) (hb hy d25_1) rfl ?_
  intro T1 W1
  refine o_acmpN W1 (pc' := 6) (hb hy d25_3) rfl rfl (XT.aa_ne_f rfl) rfl ?_
  refine o_iloadN W1 (pc' := 7) (hb hy d25_6) rfl rfl ?_
  refine o_newRE W1 (w175 hw) (w135 hw) (fun _ _ => trivial) (ad := "[Ljava/lang/Object;") (by decide) (by decide) (cap := 2) (by decide) (by decide) (pc' := 10) (hb hy d25_7) rfl (cells' := 1) (slots' := 2) rfl rfl (by decide) (by decide) (vs := [.null, .null]) rfl ?_
  intro b2 T2 h2 k2 W2 E2 ge2 gz2 gb2 V2 O2 A2
  refine o_goto W2 (pc' := 24) (hb hy d25_10) (by decide) rfl ?_
  refine o_astoreN W2 (L' := #[.val (.ref a1), .val (.int 2), .val (.ref gMO), .val (.ref b2)]) (pc' := 25) (hb hy d25_24) rfl rfl rfl ?_
  refine o_aloadN W2 (pc' := 26) (hb hy d25_25) rfl rfl rfl ?_
  refine o_iconst W2 (v := 0) (pc' := 27) (hb hy d25_26) rfl rfl ?_
  refine o_aloadN W2 (pc' := 28) (hb hy d25_27) rfl rfl rfl ?_
  refine o_iconst W2 (v := 0) (pc' := 29) (hb hy d25_28) rfl rfl ?_
  refine o_aloadN W2 (pc' := 30) (hb hy d25_29) rfl rfl rfl ?_
  have c3 := (V_a1.ext E2)
  refine o_len W2 c3 (pc' := 31) (hb hy d25_30) rfl ?_
  refine o_iloadN W2 (pc' := 32) (hb hy d25_31) rfl rfl ?_
  refine o_static W2 (y := (⟨"java/lang/Math", "min", "(II)I"⟩ : MethodName)) (w176 hw) (w177 hw) (w132 hw) (w178 hw) (by decide) (argsL := [(.int 10), (.int 2)]) (CtrN.back (Wd := 4) W2 (rm37 l Z a0 hw  h2 W2.old ) (w178 hw) (w132 hw) (by decide) (by decide)) (by rw [hml]; rfl) (lenOf pd7 rfl) (S := [(.int 0), (.ref b2), (.int 0), (.ref a1)]) rfl (by exact Nat.le_of_eq rfl) (pc' := 35) (hb hy d25_32) rfl (cells' := 1) (slots' := 2) rfl rfl (by decide) (by decide) (wy := []) (fun _ _ _ q => ⟨q.1, q.2.1⟩) all0 (fun _ _ => trivial) ?_
  intro v4 T4 h4 lo4 W4 K4 q4
  obtain rfl := q4.2.2
  show Gl _ _ _ _ _ _ _ _ [(.int 2), (.int 0), (.ref b2), (.int 0), (.ref a1)]
  have c5 := (c3.keep K4 nin0)
  have c6 := (V2.keep K4 nin0)
  have c7 := ((E_a3.ext E2).keep K4)
  have c8 := ((E_a2.ext E2).keep K4)
  refine o_copy W4 (w179 hw) (w182 hw) (w180 hw) (w181 hw) c5 c6 (us := [(.ref a2), (.ref a3)]) (Or.inr ⟨rfl, rfl, ⟨(own_stoV c6 O2 (Ins.of_exa c8 (w136 hw))), ⟨(own_stoV c6 O2 (Ins.of_exa c7 (w136 hw))), trivial⟩⟩⟩) (by decide) (by decide) (by decide) (by decide) (by decide) rfl (Nat.le_of_ble_eq_true rfl) (vd' := [(.ref a2), (.ref a3)]) rfl gz2 (Or.inr gb2) (fun _ _ => trivial) (by rw [hml]; rfl) (pc' := 38) (hb hy d25_35) rfl (by decide) 0 (by exact Nat.le_of_eq rfl) (by decide) ?_
  intro T9 h9 lo9 W9 K9 V9
  refine o_aloadN W9 (pc' := 39) (hb hy d25_38) rfl rfl rfl ?_
  have c10 := ((A2.keep K4).keep K9)
  exact o_retA W9 hlk (v := (.ref b2)) hret rfl rfl (hb hy d25_39) (by decide) (by decide) ⟨b2, k2, gb2, V9, O2, c10, rfl⟩
theorem rm39 (l : Launch) (Z : State) (a0 : Array Value) (hw : ∀ d ∈ tables_1, d.before a0 Z = true) (gMO a1 : Addr) (k_a1 : ClassId) (a2 a3 : Addr) (h0 : Heap) (O0 : Old Z Z.heap.size h0) (E_a1 : Exa Z h0 a1 "[Ljava/lang/Object;") (MgMO : MirW Z "[Ljava/lang/Object;" gMO) (V_a1 : Arv Z h0 a1 k_a1 (.object "java/lang/Object") (10 : Int32) [(.ref a2), (.ref a3), .null, .null, .null, .null, .null, .null, .null, .null] .null) (E_a3 : Exa Z h0 a3 "com/example/sessn/sessn/log/LoggedQuery") (E_a2 : Exa Z h0 a2 "com/example/sessn/sessn/log/LoggedQuery") :
    CtrN l Z (⟨"java/util/Arrays", "copyOf", "([Ljava/lang/Object;I)[Ljava/lang/Object;"⟩ : MethodName) jdk_65_method_119_code 2 (some (.array (.object "java/lang/Object"))) [] (⟨2, 1, 2, 42⟩ : Room) #[(.ref a1), (.int 2)] h0 [] (fun v h => ∃ r1 : Addr, ∃ r2 : ClassId, h0.size ≤ r1 ∧ Arv Z h r1 r2 (.object "java/lang/Object") (2 : Int32) [(.ref a2), (.ref a3)] .null ∧ Ovr Z r2 "java/lang/Object" ∧ Exa Z h r1 "[Ljava/lang/Object;" ∧ v = some (.ref r1)) := by
  refine CtrN.intro (L0 := #[.val (.ref a1), .val (.int 2)]) (plainFor_of_name pn8) O0 (own_entry rfl) ?_
  intro p e s m below meth c T0 hy hml hret hlk hnm W0
  refine o_aloadN W0 (pc' := 1) (hb hy d24_0) rfl rfl rfl ?_
  refine o_iloadN W0 (pc' := 2) (hb hy d24_1) rfl rfl ?_
  refine o_aloadN W0 (pc' := 3) (hb hy d24_2) rfl rfl rfl ?_
  refine o_gcls W0 (w165 hw) (w166 hw) (w83 hw) (w168 hw) (w167 hw) (w169 hw) E_a1 MgMO (by rw [hml]; rfl) (pc' := 6) (hb hy d24_3) rfl (by decide) 2 (by exact Nat.le_of_eq rfl) (by decide) ?_
  intro T1 W1
  refine o_static W1 (y := (⟨"java/util/Arrays", "copyOf", "([Ljava/lang/Object;ILjava/lang/Class;)[Ljava/lang/Object;"⟩ : MethodName)) (w171 hw) (w172 hw) (w163 hw) (w173 hw) (by decide) (argsL := [(.ref a1), (.int 2), (.ref gMO)]) (CtrN.back (Wd := 0) W1 (rm38 l Z a0 hw gMO a1 k_a1 a2 a3 h0 W1.old MgMO V_a1 E_a3 E_a2) (w173 hw) (w163 hw) (by decide) (by decide)) (by rw [hml]; rfl) (lenOf pd12 rfl) (S := []) rfl (by exact Nat.le_of_eq rfl) (pc' := 9) (hb hy d24_6) rfl (cells' := 1) (slots' := 2) rfl rfl (by decide) (by decide) (wy := []) (fun _ _ _ q => ⟨q.1, q.2.1⟩) all0 (fun _ _ => trivial) ?_
  intro v2 T2 h2 lo2 W2 K2 q2
  obtain ⟨r1_2, r2_2, P2_0, P2_1, P2_2, P2_3, rfl⟩ := q2.2.2
  show Gl _ _ _ _ _ _ _ _ [(.ref r1_2)]
  exact o_retA W2 hlk (v := (.ref r1_2)) hret rfl rfl (hb hy d24_9) (by decide) (by decide) ⟨r1_2, r2_2, (Nat.le_trans W1.keep.1 P2_0), P2_1, P2_2, P2_3, rfl⟩
theorem rm40 (l : Launch) (Z : State) (a0 : Array Value) (hw : ∀ d ∈ tables_1, d.before a0 Z = true) (gMO a1 a2 : Addr) (k_a2 : ClassId) (a3 a4 : Addr) (h0 : Heap) (O0 : Old Z Z.heap.size h0) (F_a1_elementData : Fld Z h0 a1 "java/util/ArrayList" "elementData" "[Ljava/lang/Object;" (.ref a2)) (F_a1_size : Fld Z h0 a1 "java/util/ArrayList" "size" "I" (.int 2)) (E_a2 : Exa Z h0 a2 "[Ljava/lang/Object;") (MgMO : MirW Z "[Ljava/lang/Object;" gMO) (V_a2 : Arv Z h0 a2 k_a2 (.object "java/lang/Object") (10 : Int32) [(.ref a3), (.ref a4), .null, .null, .null, .null, .null, .null, .null, .null] .null) (E_a4 : Exa Z h0 a4 "com/example/sessn/sessn/log/LoggedQuery") (E_a3 : Exa Z h0 a3 "com/example/sessn/sessn/log/LoggedQuery") :
    CtrN l Z (⟨"java/util/ArrayList", "toArray", "()[Ljava/lang/Object;"⟩ : MethodName) jdk_38_method_16_code 1 (some (.array (.object "java/lang/Object"))) [] (⟨3, 1, 2, 55⟩ : Room) #[(.ref a1)] h0 [] (fun v h => ∃ r1 : Addr, ∃ r2 : ClassId, h0.size ≤ r1 ∧ Arv Z h r1 r2 (.object "java/lang/Object") (2 : Int32) [(.ref a3), (.ref a4)] .null ∧ Ovr Z r2 "java/lang/Object" ∧ Exa Z h r1 "[Ljava/lang/Object;" ∧ v = some (.ref r1)) := by
  refine CtrN.intro (L0 := #[.val (.ref a1)]) (plainFor_of_name pn2) O0 (own_entry rfl) ?_
  intro p e s m below meth c T0 hy hml hret hlk hnm W0
  refine o_aloadN W0 (pc' := 1) (hb hy d23_0) rfl rfl rfl ?_
  refine o_getF W0 (w60 hw) Via.refl F_a1_elementData (pc' := 4) (hb hy d23_1) rfl ?_
  intro T1 W1
  refine o_aloadN W1 (pc' := 5) (hb hy d23_4) rfl rfl rfl ?_
  refine o_getF W1 (w94 hw) Via.refl F_a1_size (pc' := 8) (hb hy d23_5) rfl ?_
  intro T2 W2
  refine o_static W2 (y := (⟨"java/util/Arrays", "copyOf", "([Ljava/lang/Object;I)[Ljava/lang/Object;"⟩ : MethodName)) (w161 hw) (w162 hw) (w163 hw) (w164 hw) (by decide) (argsL := [(.ref a2), (.int 2)]) (CtrN.back (Wd := 0) W2 (rm39 l Z a0 hw gMO a2 k_a2 a3 a4 h0 W2.old E_a2 MgMO V_a2 E_a4 E_a3) (w164 hw) (w163 hw) (by decide) (by decide)) (by rw [hml]; rfl) (lenOf pd13 rfl) (S := []) rfl (by exact Nat.le_of_eq rfl) (pc' := 11) (hb hy d23_8) rfl (cells' := 1) (slots' := 2) rfl rfl (by decide) (by decide) (wy := []) (fun _ _ _ q => ⟨q.1, q.2.1⟩) all0 (fun _ _ => trivial) ?_
  intro v3 T3 h3 lo3 W3 K3 q3
  obtain ⟨r1_3, r2_3, P3_0, P3_1, P3_2, P3_3, rfl⟩ := q3.2.2
  show Gl _ _ _ _ _ _ _ _ [(.ref r1_3)]
  exact o_retA W3 hlk (v := (.ref r1_3)) hret rfl rfl (hb hy d23_11) (by decide) (by decide) ⟨r1_3, r2_3, (Nat.le_trans W2.keep.1 P3_0), P3_1, P3_2, P3_3, rfl⟩
theorem rm41 (l : Launch) (Z : State) (a0 : Array Value) (hw : ∀ d ∈ tables_1, d.before a0 Z = true) (a1 a2 a3 : Addr) (h0 : Heap) (O0 : Old Z Z.heap.size h0) (E_a1 : Exa Z h0 a1 "java/util/ImmutableCollections$List12") (F_a1_e0 : Fld Z h0 a1 "java/util/ImmutableCollections$List12" "e0" "Ljava/lang/Object;" .null) (g_a1 : Z.heap.size ≤ a1) (F_a1_e1 : Fld Z h0 a1 "java/util/ImmutableCollections$List12" "e1" "Ljava/lang/Object;" .null) :
    CtrN l Z (⟨"java/util/ImmutableCollections$List12", "<init>", "(Ljava/lang/Object;Ljava/lang/Object;)V"⟩ : MethodName) jdk_44_method_2_code 3 none [] (⟨4, 0, 0, 48⟩ : Room) #[(.ref a1), (.ref a2), (.ref a3)] h0 [a1] (fun v h => Fld Z h a1 "java/util/ImmutableCollections$List12" "e0" "Ljava/lang/Object;" (.ref a2) ∧ Fld Z h a1 "java/util/ImmutableCollections$List12" "e1" "Ljava/lang/Object;" (.ref a3) ∧ v = none) := by
  refine CtrN.intro (L0 := #[.val (.ref a1), .val (.ref a2), .val (.ref a3)]) (plainFor_of_name pn12) O0 (own_entry rfl) ?_
  intro p e s m below meth c T0 hy hml hret hlk hnm W0
  refine o_aloadN W0 (pc' := 1) (hb hy d35_0) rfl rfl rfl ?_
  refine o_special W0 (y := (⟨"java/util/ImmutableCollections$AbstractImmutableList", "<init>", "()V"⟩ : MethodName)) rfl (w193 hw) (w194 hw) (w198 hw) (by decide) (a := a1) (argsL := []) (CtrN.back (Wd := 0) W0 (rm22 l Z a0 hw a1 h0 W0.old ) (w198 hw) (w197 hw) (by decide) (by decide)) (by rw [hml]; rfl) (lenOf pd1 rfl) (S := []) rfl (by exact Nat.le_of_eq rfl) (pc' := 4) (hb hy d35_1) rfl (cells' := 0) (slots' := 0) rfl rfl (by decide) (by decide) (wy := []) (fun _ _ _ q => ⟨q.1, q.2.1⟩) all0 (fun _ _ => trivial) ?_
  intro v1 T1 h1 lo1 W1 K1 q1
  obtain rfl := q1.2.2
  show Gl _ _ _ _ _ _ _ _ []
  refine o_aloadN W1 (pc' := 5) (hb hy d35_4) rfl rfl rfl ?_
  refine o_aloadN W1 (pc' := 6) (hb hy d35_5) rfl rfl rfl ?_
  refine o_static W1 (y := (⟨"java/util/Objects", "requireNonNull", "(Ljava/lang/Object;)Ljava/lang/Object;"⟩ : MethodName)) (w207 hw) (w208 hw) (w209 hw) (w210 hw) (by decide) (argsL := [(.ref a2)]) (CtrN.back (Wd := 1) W1 (rm23 l Z a0 hw a2 h1 W1.old ) (w210 hw) (w209 hw) (by decide) (by decide)) (by rw [hml]; rfl) (lenOf pd14 rfl) (S := [(.ref a1)]) rfl (by exact Nat.le_of_eq rfl) (pc' := 9) (hb hy d35_6) rfl (cells' := 0) (slots' := 0) rfl rfl (by decide) (by decide) (wy := []) (fun _ _ _ q => ⟨q.1, q.2.1⟩) all0 (fun _ _ => trivial) ?_
  intro v2 T2 h2 lo2 W2 K2 q2
  obtain rfl := q2.2.2
  show Gl _ _ _ _ _ _ _ _ [(.ref a2), (.ref a1)]
  have c3 := ((E_a1.keep K1).keep K2)
  have c4 := ((F_a1_e0.keep K1 nin0).keep K2 nin0)
  refine o_putF W2 (w211 hw) Via.refl c4 c3 (Or.inr ⟨(w212 hw), rfl, hnm⟩) (w187 hw) (ty := (.object "java/lang/Object")) (v' := (.ref a2)) (by decide) rfl rfl g_a1 (Or.inl (List.mem_of_getElem? (i := 0) rfl)) (fun _ _ => trivial) (pc' := 12) (hb hy d35_9) rfl ?_
  intro T5 h5 lo5 W5 R5
  have F5 := c4.same R5
  refine o_aloadN W5 (pc' := 13) (hb hy d35_12) rfl rfl rfl ?_
  refine o_aloadN W5 (pc' := 14) (hb hy d35_13) rfl rfl rfl ?_
  refine o_static W5 (y := (⟨"java/util/Objects", "requireNonNull", "(Ljava/lang/Object;)Ljava/lang/Object;"⟩ : MethodName)) (w207 hw) (w208 hw) (w209 hw) (w210 hw) (by decide) (argsL := [(.ref a3)]) (CtrN.back (Wd := 1) W5 (rm23 l Z a0 hw a3 h5 W5.old ) (w210 hw) (w209 hw) (by decide) (by decide)) (by rw [hml]; rfl) (lenOf pd14 rfl) (S := [(.ref a1)]) rfl (by exact Nat.le_of_eq rfl) (pc' := 17) (hb hy d35_14) rfl (cells' := 0) (slots' := 0) rfl rfl (by decide) (by decide) (wy := []) (fun _ _ _ q => ⟨q.1, q.2.1⟩) all0 (fun _ _ => trivial) ?_
  intro v6 T6 h6 lo6 W6 K6 q6
  obtain rfl := q6.2.2
  show Gl _ _ _ _ _ _ _ _ [(.ref a3), (.ref a1)]
  have c7 := ((c3.wr R5).keep K6)
  have c8 := ((((F_a1_e1.keep K1 nin0).keep K2 nin0).other R5 (Or.inr (slot_ne (Or.inr (w215 hw)) (Or.inr (w212 hw)) (by decide) (t := (.object "java/lang/Object")) (t' := (.object "java/lang/Object")) (by decide) (by decide)))).keep K6 nin0)
  refine o_putF W6 (w214 hw) Via.refl c8 c7 (Or.inr ⟨(w215 hw), rfl, hnm⟩) (w187 hw) (ty := (.object "java/lang/Object")) (v' := (.ref a3)) (by decide) rfl rfl g_a1 (Or.inl (List.mem_of_getElem? (i := 0) rfl)) (fun _ _ => trivial) (pc' := 20) (hb hy d35_17) rfl ?_
  intro T9 h9 lo9 W9 R9
  have F9 := c8.same R9
  have c10 := ((F5.keep K6 nin0).other R9 (Or.inr (slot_ne (Or.inr (w212 hw)) (Or.inr (w215 hw)) (by decide) (t := (.object "java/lang/Object")) (t' := (.object "java/lang/Object")) (by decide) (by decide))))
  have c11 := (c7.wr R9)
  exact o_ret0 W9 hlk hret (hb hy d35_20) (by decide) (by decide) ⟨c10, F9, rfl⟩
theorem rm42 (l : Launch) (Z : State) (a0 : Array Value) (hw : ∀ d ∈ tables_1, d.before a0 Z = true) (a1 : Addr) (k_a1 : ClassId) (a2 a3 : Addr) (h0 : Heap) (O0 : Old Z Z.heap.size h0) (V_a1 : Arv Z h0 a1 k_a1 (.object "java/lang/Object") (2 : Int32) [(.ref a2), (.ref a3)] .null) :
    CtrN l Z (⟨"java/util/List", "of", "([Ljava/lang/Object;)Ljava/util/List;"⟩ : MethodName) jdk_40_method_47_code 2 (some (.object "java/util/List")) [] (⟨5, 1, 2, 63⟩ : Room) #[(.ref a1)] h0 [] (fun v h => ∃ r1 : Addr, h0.size ≤ r1 ∧ Exa Z h r1 "java/util/ImmutableCollections$List12" ∧ Fld Z h r1 "java/util/ImmutableCollections$List12" "e0" "Ljava/lang/Object;" (.ref a2) ∧ Fld Z h r1 "java/util/ImmutableCollections$List12" "e1" "Ljava/lang/Object;" (.ref a3) ∧ v = some (.ref r1)) := by
  refine CtrN.intro (L0 := #[.val (.ref a1), .unset]) (plainFor_of_name pn4) O0 (own_entry rfl) ?_
  intro p e s m below meth c T0 hy hml hret hlk hnm W0
  refine o_aloadN W0 (pc' := 1) (hb hy d27_0) rfl rfl rfl ?_
  refine o_len W0 V_a1 (pc' := 2) (hb hy d27_1) rfl ?_
  refine o_tswI W0 (pc' := 45) (hb hy d27_2) (by decide) (off := 43) (by decide) (by decide) rfl ?_
  refine o_new W0 (w186 hw) (w187 hw) (w188 hw) (fun _ _ => trivial) (pc' := 48) (hb hy d27_45) rfl (cells' := 1) (slots' := 2) rfl rfl (by decide) (by decide) ?_
  intro b1 T1 h1 W1 E1 ge1 gz1 gb1 A1 D1
  have Fb1_e0 : Fld Z h1 b1 "java/util/ImmutableCollections$List12" "e0" "Ljava/lang/Object;" .null := D1 (Or.inr (w212 hw)) (ty := (.object "java/lang/Object")) (by decide)
  have Fb1_e1 : Fld Z h1 b1 "java/util/ImmutableCollections$List12" "e1" "Ljava/lang/Object;" .null := D1 (Or.inr (w215 hw)) (ty := (.object "java/lang/Object")) (by decide)
  refine o_dup W1 (pc' := 49) (hb hy d27_48) rfl rfl ?_
  refine o_aloadN W1 (pc' := 50) (hb hy d27_49) rfl rfl rfl ?_
  refine o_iconst W1 (v := 0) (pc' := 51) (hb hy d27_50) rfl rfl ?_
  have c2 := (V_a1.ext E1)
  refine o_aaload W1 c2 rfl (v := (.ref a2)) (i := 0) (by decide) (by decide) (by decide) rfl (pc' := 52) (hb hy d27_51) rfl ?_
  refine o_aloadN W1 (pc' := 53) (hb hy d27_52) rfl rfl rfl ?_
  refine o_iconst W1 (v := 1) (pc' := 54) (hb hy d27_53) rfl rfl ?_
  refine o_aaload W1 c2 rfl (v := (.ref a3)) (i := 1) (by decide) (by decide) (by decide) rfl (pc' := 55) (hb hy d27_54) rfl ?_
  refine o_special W1 (y := (⟨"java/util/ImmutableCollections$List12", "<init>", "(Ljava/lang/Object;Ljava/lang/Object;)V"⟩ : MethodName)) rfl (w244 hw) (w245 hw) (w246 hw) (by decide) (a := b1) (argsL := [(.ref a2), (.ref a3)]) (CtrN.back (Wd := 1) W1 (rm41 l Z a0 hw b1 a2 a3 h1 W1.old A1 Fb1_e0 gz1 Fb1_e1) (w246 hw) (w188 hw) (by decide) (by decide)) (by rw [hml]; rfl) (lenOf pd21 rfl) (S := [(.ref b1)]) rfl (by exact Nat.le_of_eq rfl) (pc' := 58) (hb hy d27_55) rfl (cells' := 1) (slots' := 2) rfl rfl (by decide) (by decide) (wy := [b1]) (fun _ _ _ q => ⟨q.1, q.2.1⟩) (allS ⟨gz1, (Or.inr gb1)⟩ all0) (fun _ _ => trivial) ?_
  intro v3 T3 h3 lo3 W3 K3 q3
  obtain ⟨P3_0, P3_1, rfl⟩ := q3.2.2
  show Gl _ _ _ _ _ _ _ _ [(.ref b1)]
  have c4 := (A1.keep K3)
  exact o_retA W3 hlk (v := (.ref b1)) hret rfl rfl (hb hy d27_58) (by decide) (by decide) ⟨b1, gb1, c4, P3_0, P3_1, rfl⟩
theorem rm43 (l : Launch) (Z : State) (a0 : Array Value) (hw : ∀ d ∈ tables_1, d.before a0 Z = true) (gMO a1 a2 : Addr) (k_a2 : ClassId) (a3 a4 : Addr) (h0 : Heap) (O0 : Old Z Z.heap.size h0) (E_a1 : Exa Z h0 a1 "java/util/ArrayList") (F_a1_size : Fld Z h0 a1 "java/util/ArrayList" "size" "I" (.int 2)) (F_a1_elementData : Fld Z h0 a1 "java/util/ArrayList" "elementData" "[Ljava/lang/Object;" (.ref a2)) (E_a2 : Exa Z h0 a2 "[Ljava/lang/Object;") (MgMO : MirW Z "[Ljava/lang/Object;" gMO) (V_a2 : Arv Z h0 a2 k_a2 (.object "java/lang/Object") (10 : Int32) [(.ref a3), (.ref a4), .null, .null, .null, .null, .null, .null, .null, .null] .null) (E_a4 : Exa Z h0 a4 "com/example/sessn/sessn/log/LoggedQuery") (E_a3 : Exa Z h0 a3 "com/example/sessn/sessn/log/LoggedQuery") :
    CtrN l Z (⟨"java/util/ImmutableCollections", "listCopy", "(Ljava/util/Collection;)Ljava/util/List;"⟩ : MethodName) jdk_56_method_3_code 2 (some (.object "java/util/List")) [] (⟨6, 2, 4, 76⟩ : Room) #[(.ref a1)] h0 [] (fun v h => ∃ r1 : Addr, h0.size ≤ r1 ∧ Exa Z h r1 "java/util/ImmutableCollections$List12" ∧ Fld Z h r1 "java/util/ImmutableCollections$List12" "e0" "Ljava/lang/Object;" (.ref a3) ∧ Fld Z h r1 "java/util/ImmutableCollections$List12" "e1" "Ljava/lang/Object;" (.ref a4) ∧ v = some (.ref r1)) := by
  refine CtrN.intro (L0 := #[.val (.ref a1), .unset]) (plainFor_of_name pn5) O0 (own_entry rfl) ?_
  intro p e s m below meth c T0 hy hml hret hlk hnm W0
  refine o_aloadN W0 (pc' := 1) (hb hy d14_0) rfl rfl rfl ?_
  refine o_instN W0 (w79 hw) E_a1 (own_NSno (w80 hw) (w187 hw) (NS.step (w80 hw) (NS.step (w81 hw) (NS.step (w82 hw) (own_NSr (w83 hw) (w187 hw) (by decide)) (by decide)) (by decide)) (by decide)) (by decide)) (pc' := 4) (hb hy d14_1) rfl ?_
  intro T1 W1
  refine o_ifN W1 (pc' := 7) (hb hy d14_4) (XT.i0_ne_f (by decide)) rfl ?_
  refine o_aloadN W1 (pc' := 8) (hb hy d14_7) rfl rfl rfl ?_
  refine o_instN W1 (w84 hw) E_a1 (own_NSno (w80 hw) (w252 hw) (NS.step (w80 hw) (NS.step (w81 hw) (NS.step (w82 hw) (own_NSr (w83 hw) (w252 hw) (by decide)) (by decide)) (by decide)) (by decide)) (by decide)) (pc' := 11) (hb hy d14_8) rfl ?_
  intro T2 W2
  refine o_ifY W2 (pc' := 31) (hb hy d14_11) (XT.i0_eq_t (by decide)) (by decide) rfl ?_
  refine o_aloadN W2 (pc' := 32) (hb hy d14_31) rfl rfl rfl ?_
  refine o_iface W2 (y := (⟨"java/util/Collection", "isEmpty", "()Z"⟩ : MethodName)) (z := (⟨"java/util/ArrayList", "isEmpty", "()Z"⟩ : MethodName)) (w85 hw) (w86 hw) (w87 hw) (w88 hw) (w89 hw) (w90 hw) (w91 hw) (w92 hw) (by decide) E_a1 (argsL := []) (CtrN.back (Wd := 0) W2 (rm36 l Z a0 hw a1 h0 W2.old F_a1_size) (w93 hw) (w40 hw) (by decide) (by decide)) (by rw [hml]; rfl) (lenOf pd2 rfl) (S := []) rfl (by exact Nat.le_of_eq rfl) (pc' := 37) (hb hy d14_32) rfl (cells' := 0) (slots' := 0) rfl rfl (by decide) (by decide) (wy := []) (fun _ _ _ q => ⟨q.1, q.2.1⟩) all0 (fun _ _ => trivial) ?_
  intro v3 T3 h3 lo3 W3 K3 q3
  obtain rfl := q3.2.2
  show Gl _ _ _ _ _ _ _ _ [(.int 0)]
  refine o_ifY W3 (pc' := 44) (hb hy d14_37) (XT.i0_eq_t (by decide)) (by decide) rfl ?_
  refine o_aloadN W3 (pc' := 45) (hb hy d14_44) rfl rfl rfl ?_
  have c4 := (F_a1_elementData.keep K3 nin0)
  have c5 := (F_a1_size.keep K3 nin0)
  have c6 := (E_a2.keep K3)
  have c7 := (V_a2.keep K3 nin0)
  have c8 := (E_a4.keep K3)
  have c9 := (E_a3.keep K3)
  have c10 := (E_a1.keep K3)
  refine o_iface W3 (y := (⟨"java/util/Collection", "toArray", "()[Ljava/lang/Object;"⟩ : MethodName)) (z := (⟨"java/util/ArrayList", "toArray", "()[Ljava/lang/Object;"⟩ : MethodName)) (w153 hw) (w154 hw) (w155 hw) (w156 hw) (w157 hw) (w158 hw) (w159 hw) (w92 hw) (by decide) c10 (argsL := []) (CtrN.back (Wd := 0) W3 (rm40 l Z a0 hw gMO a1 a2 k_a2 a3 a4 h3 W3.old c4 c5 c6 MgMO c7 c8 c9) (w160 hw) (w40 hw) (by decide) (by decide)) (by rw [hml]; rfl) (lenOf pd9 rfl) (S := []) rfl (by exact Nat.le_of_eq rfl) (pc' := 50) (hb hy d14_45) rfl (cells' := 1) (slots' := 2) rfl rfl (by decide) (by decide) (wy := []) (fun _ _ _ q => ⟨q.1, q.2.1⟩) all0 (fun _ _ => trivial) ?_
  intro v11 T11 h11 lo11 W11 K11 q11
  obtain ⟨r1_11, r2_11, P11_0, P11_1, P11_2, P11_3, rfl⟩ := q11.2.2
  show Gl _ _ _ _ _ _ _ _ [(.ref r1_11)]
  refine o_static W11 (y := (⟨"java/util/List", "of", "([Ljava/lang/Object;)Ljava/util/List;"⟩ : MethodName)) (w183 hw) (w184 hw) (w73 hw) (w185 hw) (by decide) (argsL := [(.ref r1_11)]) (CtrN.back (Wd := 0) W11 (rm42 l Z a0 hw r1_11 r2_11 a3 a4 h11 W11.old P11_1) (w185 hw) (w73 hw) (by decide) (by decide)) (by rw [hml]; rfl) (lenOf pd16 rfl) (S := []) rfl (by exact Nat.le_of_eq rfl) (pc' := 53) (hb hy d14_50) rfl (cells' := 2) (slots' := 4) rfl rfl (by decide) (by decide) (wy := []) (fun _ _ _ q => ⟨q.1, q.2.1⟩) all0 (fun _ _ => trivial) ?_
  intro v12 T12 h12 lo12 W12 K12 q12
  obtain ⟨r1_12, P12_0, P12_1, P12_2, P12_3, rfl⟩ := q12.2.2
  show Gl _ _ _ _ _ _ _ _ [(.ref r1_12)]
  exact o_retA W12 hlk (v := (.ref r1_12)) hret rfl rfl (hb hy d14_53) (by decide) (by decide) ⟨r1_12, (Nat.le_trans W11.keep.1 P12_0), P12_1, P12_2, P12_3, rfl⟩
theorem rm44 (l : Launch) (Z : State) (a0 : Array Value) (hw : ∀ d ∈ tables_1, d.before a0 Z = true) (gMO a1 a2 : Addr) (k_a2 : ClassId) (a3 a4 : Addr) (h0 : Heap) (O0 : Old Z Z.heap.size h0) (E_a1 : Exa Z h0 a1 "java/util/ArrayList") (F_a1_size : Fld Z h0 a1 "java/util/ArrayList" "size" "I" (.int 2)) (F_a1_elementData : Fld Z h0 a1 "java/util/ArrayList" "elementData" "[Ljava/lang/Object;" (.ref a2)) (E_a2 : Exa Z h0 a2 "[Ljava/lang/Object;") (MgMO : MirW Z "[Ljava/lang/Object;" gMO) (V_a2 : Arv Z h0 a2 k_a2 (.object "java/lang/Object") (10 : Int32) [(.ref a3), (.ref a4), .null, .null, .null, .null, .null, .null, .null, .null] .null) (E_a4 : Exa Z h0 a4 "com/example/sessn/sessn/log/LoggedQuery") (E_a3 : Exa Z h0 a3 "com/example/sessn/sessn/log/LoggedQuery") :
    CtrN l Z (⟨"java/util/List", "copyOf", "(Ljava/util/Collection;)Ljava/util/List;"⟩ : MethodName) jdk_40_method_48_code 1 (some (.object "java/util/List")) [] (⟨7, 2, 4, 89⟩ : Room) #[(.ref a1)] h0 [] (fun v h => ∃ r1 : Addr, h0.size ≤ r1 ∧ Exa Z h r1 "java/util/ImmutableCollections$List12" ∧ Fld Z h r1 "java/util/ImmutableCollections$List12" "e0" "Ljava/lang/Object;" (.ref a3) ∧ Fld Z h r1 "java/util/ImmutableCollections$List12" "e1" "Ljava/lang/Object;" (.ref a4) ∧ v = some (.ref r1)) := by
  refine CtrN.intro (L0 := #[.val (.ref a1)]) (plainFor_of_name pn4) O0 (own_entry rfl) ?_
  intro p e s m below meth c T0 hy hml hret hlk hnm W0
  refine o_aloadN W0 (pc' := 1) (hb hy d13_0) rfl rfl rfl ?_
  refine o_static W0 (y := (⟨"java/util/ImmutableCollections", "listCopy", "(Ljava/util/Collection;)Ljava/util/List;"⟩ : MethodName)) (w75 hw) (w76 hw) (w77 hw) (w78 hw) (by decide) (argsL := [(.ref a1)]) (CtrN.back (Wd := 0) W0 (rm43 l Z a0 hw gMO a1 a2 k_a2 a3 a4 h0 W0.old E_a1 F_a1_size F_a1_elementData E_a2 MgMO V_a2 E_a4 E_a3) (w78 hw) (w77 hw) (by decide) (by decide)) (by rw [hml]; rfl) (lenOf pd4 rfl) (S := []) rfl (by exact Nat.le_of_eq rfl) (pc' := 4) (hb hy d13_1) rfl (cells' := 2) (slots' := 4) rfl rfl (by decide) (by decide) (wy := []) (fun _ _ _ q => ⟨q.1, q.2.1⟩) all0 (fun _ _ => trivial) ?_
  intro v1 T1 h1 lo1 W1 K1 q1
  obtain ⟨r1_1, P1_0, P1_1, P1_2, P1_3, rfl⟩ := q1.2.2
  show Gl _ _ _ _ _ _ _ _ [(.ref r1_1)]
  exact o_retA W1 hlk (v := (.ref r1_1)) hret rfl rfl (hb hy d13_4) (by decide) (by decide) ⟨r1_1, (Nat.le_trans W0.keep.1 P1_0), P1_1, P1_2, P1_3, rfl⟩
theorem rm45 (l : Launch) (Z : State) (a0 : Array Value) (hw : ∀ d ∈ tables_1, d.before a0 Z = true) (gMO a1 a2 a3 a4 : Addr) (k_a4 : ClassId) (a5 a6 : Addr) (h0 : Heap) (O0 : Old Z Z.heap.size h0) (E_a3 : Exa Z h0 a3 "java/util/ArrayList") (F_a3_size : Fld Z h0 a3 "java/util/ArrayList" "size" "I" (.int 2)) (F_a3_elementData : Fld Z h0 a3 "java/util/ArrayList" "elementData" "[Ljava/lang/Object;" (.ref a4)) (E_a4 : Exa Z h0 a4 "[Ljava/lang/Object;") (MgMO : MirW Z "[Ljava/lang/Object;" gMO) (V_a4 : Arv Z h0 a4 k_a4 (.object "java/lang/Object") (10 : Int32) [(.ref a5), (.ref a6), .null, .null, .null, .null, .null, .null, .null, .null] .null) (E_a6 : Exa Z h0 a6 "com/example/sessn/sessn/log/LoggedQuery") (E_a5 : Exa Z h0 a5 "com/example/sessn/sessn/log/LoggedQuery") (E_a1 : Exa Z h0 a1 "com/example/sessn/sessn/log/LoggedSession") (F_a1_id : Fld Z h0 a1 "com/example/sessn/sessn/log/LoggedSession" "id" "Ljava/lang/String;" .null) (g_a1 : Z.heap.size ≤ a1) (F_a1_queries : Fld Z h0 a1 "com/example/sessn/sessn/log/LoggedSession" "queries" "Ljava/util/List;" .null) :
    CtrN l Z (⟨"com/example/sessn/sessn/log/LoggedSession", "<init>", "(Ljava/lang/String;Ljava/util/List;)V"⟩ : MethodName) prog_20_method_1_code 3 none [] (⟨8, 2, 4, 101⟩ : Room) #[(.ref a1), (.ref a2), (.ref a3)] h0 [a1] (fun v h => ∃ r1 : Addr, h0.size ≤ r1 ∧ Fld Z h a1 "com/example/sessn/sessn/log/LoggedSession" "id" "Ljava/lang/String;" (.ref a2) ∧ Fld Z h a1 "com/example/sessn/sessn/log/LoggedSession" "queries" "Ljava/util/List;" (.ref r1) ∧ Exa Z h r1 "java/util/ImmutableCollections$List12" ∧ Fld Z h r1 "java/util/ImmutableCollections$List12" "e0" "Ljava/lang/Object;" (.ref a5) ∧ Fld Z h r1 "java/util/ImmutableCollections$List12" "e1" "Ljava/lang/Object;" (.ref a6) ∧ v = none) := by
  refine CtrN.intro (L0 := #[.val (.ref a1), .val (.ref a2), .val (.ref a3)]) (plainFor_of_name pn13) O0 (own_entry rfl) ?_
  intro p e s m below meth c T0 hy hml hret hlk hnm W0
  refine o_aloadN W0 (pc' := 1) (hb hy d22_0) rfl rfl rfl ?_
  refine o_special W0 (y := (⟨"java/lang/Record", "<init>", "()V"⟩ : MethodName)) rfl (w146 hw) (w66 hw) (w69 hw) (by decide) (a := a1) (argsL := []) (CtrN.back (Wd := 0) W0 (rm4 l Z a0 hw a1 h0 W0.old ) (w69 hw) (w68 hw) (by decide) (by decide)) (by rw [hml]; rfl) (lenOf pd1 rfl) (S := []) rfl (by exact Nat.le_of_eq rfl) (pc' := 4) (hb hy d22_1) rfl (cells' := 0) (slots' := 0) rfl rfl (by decide) (by decide) (wy := []) (fun _ _ _ q => ⟨q.1, q.2.1⟩) all0 (fun _ _ => trivial) ?_
  intro v1 T1 h1 lo1 W1 K1 q1
  obtain rfl := q1.2.2
  show Gl _ _ _ _ _ _ _ _ []
  refine o_aloadN W1 (pc' := 5) (hb hy d22_4) rfl rfl rfl ?_
  have c2 := (E_a3.keep K1)
  have c3 := (F_a3_size.keep K1 nin0)
  refine o_iface W1 (y := (⟨"java/util/List", "isEmpty", "()Z"⟩ : MethodName)) (z := (⟨"java/util/ArrayList", "isEmpty", "()Z"⟩ : MethodName)) (w147 hw) (w148 hw) (w149 hw) (w150 hw) (w89 hw) (w90 hw) (w91 hw) (w151 hw) (by decide) c2 (argsL := []) (CtrN.back (Wd := 0) W1 (rm36 l Z a0 hw a3 h1 W1.old c3) (w93 hw) (w40 hw) (by decide) (by decide)) (by rw [hml]; rfl) (lenOf pd2 rfl) (S := []) rfl (by exact Nat.le_of_eq rfl) (pc' := 10) (hb hy d22_5) rfl (cells' := 0) (slots' := 0) rfl rfl (by decide) (by decide) (wy := []) (fun _ _ _ q => ⟨q.1, q.2.1⟩) all0 (fun _ _ => trivial) ?_
  intro v4 T4 h4 lo4 W4 K4 q4
  obtain rfl := q4.2.2
  show Gl _ _ _ _ _ _ _ _ [(.int 0)]
  refine o_ifY W4 (pc' := 27) (hb hy d22_10) (XT.i0_eq_t (by decide)) (by decide) rfl ?_
  refine o_aloadN W4 (pc' := 28) (hb hy d22_27) rfl rfl rfl ?_
  have c5 := (c3.keep K4 nin0)
  have c6 := ((F_a3_elementData.keep K1 nin0).keep K4 nin0)
  have c7 := ((E_a4.keep K1).keep K4)
  have c8 := ((V_a4.keep K1 nin0).keep K4 nin0)
  have c9 := ((E_a6.keep K1).keep K4)
  have c10 := ((E_a5.keep K1).keep K4)
  have c11 := (c2.keep K4)
  refine o_static W4 (y := (⟨"java/util/List", "copyOf", "(Ljava/util/Collection;)Ljava/util/List;"⟩ : MethodName)) (w152 hw) (w72 hw) (w73 hw) (w74 hw) (by decide) (argsL := [(.ref a3)]) (CtrN.back (Wd := 0) W4 (rm44 l Z a0 hw gMO a3 a4 k_a4 a5 a6 h4 W4.old c11 c5 c6 c7 MgMO c8 c9 c10) (w74 hw) (w73 hw) (by decide) (by decide)) (by rw [hml]; rfl) (lenOf pd4 rfl) (S := []) rfl (by exact Nat.le_of_eq rfl) (pc' := 31) (hb hy d22_28) rfl (cells' := 2) (slots' := 4) rfl rfl (by decide) (by decide) (wy := []) (fun _ _ _ q => ⟨q.1, q.2.1⟩) all0 (fun _ _ => trivial) ?_
  intro v12 T12 h12 lo12 W12 K12 q12
  obtain ⟨r1_12, P12_0, P12_1, P12_2, P12_3, rfl⟩ := q12.2.2
  show Gl _ _ _ _ _ _ _ _ [(.ref r1_12)]
  refine o_astoreN W12 (L' := #[.val (.ref a1), .val (.ref a2), .val (.ref r1_12)]) (pc' := 32) (hb hy d22_31) rfl rfl rfl ?_
  refine o_aloadN W12 (pc' := 33) (hb hy d22_32) rfl rfl rfl ?_
  refine o_aloadN W12 (pc' := 34) (hb hy d22_33) rfl rfl rfl ?_
  have c13 := (((E_a1.keep K1).keep K4).keep K12)
  have c14 := (((F_a1_id.keep K1 nin0).keep K4 nin0).keep K12 nin0)
  refine o_putF W12 (w216 hw) Via.refl c14 c13 (Or.inr ⟨(w217 hw), rfl, hnm⟩) (w138 hw) (ty := (.object "java/lang/String")) (v' := (.ref a2)) (by decide) rfl rfl g_a1 (Or.inl (List.mem_of_getElem? (i := 0) rfl)) (fun _ _ => trivial) (pc' := 37) (hb hy d22_34) rfl ?_
  intro T15 h15 lo15 W15 R15
  have F15 := c14.same R15
  refine o_aloadN W15 (pc' := 38) (hb hy d22_37) rfl rfl rfl ?_
  refine o_aloadN W15 (pc' := 39) (hb hy d22_38) rfl rfl rfl ?_
  have c16 := (c13.wr R15)
  have c17 := ((((F_a1_queries.keep K1 nin0).keep K4 nin0).keep K12 nin0).other R15 (Or.inr (slot_ne (Or.inr (w219 hw)) (Or.inr (w217 hw)) (by decide) (t := (.object "java/util/List")) (t' := (.object "java/lang/String")) (by decide) (by decide))))
  refine o_putF W15 (w218 hw) Via.refl c17 c16 (Or.inr ⟨(w219 hw), rfl, hnm⟩) (w138 hw) (ty := (.object "java/util/List")) (v' := (.ref r1_12)) (by decide) rfl rfl g_a1 (Or.inl (List.mem_of_getElem? (i := 0) rfl)) (fun _ _ => trivial) (pc' := 42) (hb hy d22_39) rfl ?_
  intro T18 h18 lo18 W18 R18
  have F18 := c17.same R18
  have c19 := (F15.other R18 (Or.inr (slot_ne (Or.inr (w217 hw)) (Or.inr (w219 hw)) (by decide) (t := (.object "java/lang/String")) (t' := (.object "java/util/List")) (by decide) (by decide))))
  have c20 := (c16.wr R18)
  have c21 := ((P12_1.wr R15).wr R18)
  have c22 := ((E_a1.keep K1).keep K4)
  have c23 := ((P12_2.other R15 (Or.inl (own_ne' c22.lt P12_0))).other R18 (Or.inl (own_ne' c22.lt P12_0)))
  have c24 := ((P12_3.other R15 (Or.inl (own_ne' c22.lt P12_0))).other R18 (Or.inl (own_ne' c22.lt P12_0)))
  exact o_ret0 W18 hlk hret (hb hy d22_42) (by decide) (by decide) ⟨r1_12, (Nat.le_trans W4.keep.1 P12_0), c19, F18, c21, c23, c24, rfl⟩
theorem rm46 (l : Launch) (Z : State) (a0 : Array Value) (hw : ∀ d ∈ tables_1, d.before a0 Z = true) (a1 a2 a3 : Addr) (k_a3 : ClassId) (a4 : Addr) (h0 : Heap) (O0 : Old Z Z.heap.size h0) (V_a3 : Arv Z h0 a3 k_a3 (.object "java/lang/Object") (10 : Int32) [(.ref a2), (.ref a4), .null, .null, .null, .null, .null, .null, .null, .null] .null) (g_a3 : Z.heap.size ≤ a3) (O_a3 : Ovr Z k_a3 "java/lang/Object") (E_a2 : Exa Z h0 a2 "com/example/sessn/sessn/log/LoggedQuery") (E_a1 : Exa Z h0 a1 "java/util/ArrayList") (F_a1_size : Fld Z h0 a1 "java/util/ArrayList" "size" "I" (.int 2)) (E_a3 : Exa Z h0 a3 "[Ljava/lang/Object;") (g_a1 : Z.heap.size ≤ a1) (F_a1_modCount : Fld Z h0 a1 "java/util/AbstractList" "modCount" "I" (.int 3)) (F_a1_elementData : Fld Z h0 a1 "java/util/ArrayList" "elementData" "[Ljava/lang/Object;" (.ref a3)) :
    CtrN l Z (⟨"java/util/ArrayList", "add", "(Ljava/lang/Object;[Ljava/lang/Object;I)V"⟩ : MethodName) jdk_38_method_24_code 4 none [] (⟨0, 0, 0, 0⟩ : Room) #[(.ref a1), (.ref a2), (.ref a3), (.int 2)] h0 [a3, a1] (fun v h => Arv Z h a3 k_a3 (.object "java/lang/Object") (10 : Int32) [(.ref a2), (.ref a4), (.ref a2), .null, .null, .null, .null, .null, .null, .null] .null ∧ Fld Z h a1 "java/util/ArrayList" "size" "I" (.int 3) ∧ Fld Z h a1 "java/util/AbstractList" "modCount" "I" (.int 3) ∧ Fld Z h a1 "java/util/ArrayList" "elementData" "[Ljava/lang/Object;" (.ref a3) ∧ v = none) := by
  refine CtrN.intro (L0 := #[.val (.ref a1), .val (.ref a2), .val (.ref a3), .val (.int 2)]) (plainFor_of_name pn2) O0 (own_entry rfl) ?_
  intro p e s m below meth c T0 hy hml hret hlk hnm W0
  refine o_iloadN W0 (pc' := 1) (hb hy d18_0) rfl rfl ?_
  refine o_aloadN W0 (pc' := 2) (hb hy d18_1) rfl rfl rfl ?_
  refine o_len W0 V_a3 (pc' := 3) (hb hy d18_2) rfl ?_
  refine o_icmpY W0 (pc' := 11) (hb hy d18_3) (XT.ii_ne_t (by decide)) (by decide) rfl ?_
  refine o_aloadN W0 (pc' := 12) (hb hy d18_11) rfl rfl rfl ?_
  refine o_iloadN W0 (pc' := 13) (hb hy d18_12) rfl rfl ?_
  refine o_aloadN W0 (pc' := 14) (hb hy d18_13) rfl rfl rfl ?_
  refine o_stR W0 V_a3 (i := 2) rfl rfl (own_stoV V_a3 O_a3 (Ins.of_exa E_a2 (w136 hw))) (by decide) (by decide) (by decide) (Nat.lt_of_sub_eq_succ rfl) (vs' := [(.ref a2), (.ref a4), (.ref a2), .null, .null, .null, .null, .null, .null, .null]) rfl g_a3 (Or.inl (List.mem_of_getElem? (i := 0) rfl)) (fun _ _ => trivial) (pc' := 15) (hb hy d18_14) rfl ?_
  intro T1 h1 lo1 W1 R1 V1
  refine o_aloadN W1 (pc' := 16) (hb hy d18_15) rfl rfl rfl ?_
  refine o_iloadN W1 (pc' := 17) (hb hy d18_16) rfl rfl ?_
  refine o_iconst W1 (v := 1) (pc' := 18) (hb hy d18_17) rfl rfl ?_
  refine o_iadd W1 (v := 3) (pc' := 19) (hb hy d18_18) (by decide) rfl ?_
  have c2 := (E_a1.wr R1)
  have c3 := (E_a3.wr R1)
  have c4 := (F_a1_size.other R1 (Or.inl (Exa.ne E_a1 E_a3 (by decide))))
  refine o_putF W1 (w94 hw) Via.refl c4 c2 (Or.inl (w95 hw)) (w39 hw) (ty := .int) (v' := (.int 3)) (by decide) rfl rfl g_a1 (Or.inl (List.mem_of_getElem? (i := 1) rfl)) (fun _ _ => trivial) (pc' := 22) (hb hy d18_19) rfl ?_
  intro T5 h5 lo5 W5 R5
  have F5 := c4.same R5
  have c6 := (c2.wr R5)
  have c7 := (c3.wr R5)
  have c8 := ((F_a1_modCount.other R1 (Or.inl (Exa.ne E_a1 E_a3 (by decide)))).other R5 (Or.inr (slot_ne (Or.inl (w58 hw)) (Or.inl (w95 hw)) (by decide) (t := .int) (t' := .int) (by decide) (by decide))))
  have c9 := ((F_a1_elementData.other R1 (Or.inl (Exa.ne E_a1 E_a3 (by decide)))).other R5 (Or.inr (slot_ne (Or.inl (w61 hw)) (Or.inl (w95 hw)) (by decide) (t := (.array (.object "java/lang/Object"))) (t' := .int) (by decide) (by decide))))
  have c10 := (V1.other R5 (Exa.ne c3 c2 (by decide)))
  exact o_ret0 W5 hlk hret (hb hy d18_22) (by decide) (by decide) ⟨c10, F5, c8, c9, rfl⟩
theorem rm47 (l : Launch) (Z : State) (a0 : Array Value) (hw : ∀ d ∈ tables_1, d.before a0 Z = true) (a1 a2 a3 : Addr) (k_a3 : ClassId) (a4 : Addr) (h0 : Heap) (O0 : Old Z Z.heap.size h0) (F_a1_modCount : Fld Z h0 a1 "java/util/AbstractList" "modCount" "I" (.int 2)) (E_a1 : Exa Z h0 a1 "java/util/ArrayList") (g_a1 : Z.heap.size ≤ a1) (F_a1_elementData : Fld Z h0 a1 "java/util/ArrayList" "elementData" "[Ljava/lang/Object;" (.ref a3)) (F_a1_size : Fld Z h0 a1 "java/util/ArrayList" "size" "I" (.int 2)) (V_a3 : Arv Z h0 a3 k_a3 (.object "java/lang/Object") (10 : Int32) [(.ref a2), (.ref a4), .null, .null, .null, .null, .null, .null, .null, .null] .null) (E_a3 : Exa Z h0 a3 "[Ljava/lang/Object;") (O_a3 : Ovr Z k_a3 "java/lang/Object") (E_a2 : Exa Z h0 a2 "com/example/sessn/sessn/log/LoggedQuery") (g_a3 : Z.heap.size ≤ a3) :
    CtrN l Z (⟨"java/util/ArrayList", "add", "(Ljava/lang/Object;)Z"⟩ : MethodName) jdk_38_method_25_code 2 (some .boolean) [] (⟨1, 0, 0, 15⟩ : Room) #[(.ref a1), (.ref a2)] h0 [a1, a3] (fun v h => Fld Z h a1 "java/util/AbstractList" "modCount" "I" (.int 3) ∧ Fld Z h a1 "java/util/ArrayList" "elementData" "[Ljava/lang/Object;" (.ref a3) ∧ Fld Z h a1 "java/util/ArrayList" "size" "I" (.int 3) ∧ Arv Z h a3 k_a3 (.object "java/lang/Object") (10 : Int32) [(.ref a2), (.ref a4), (.ref a2), .null, .null, .null, .null, .null, .null, .null] .null ∧ v = some (.int 1)) := by
  refine CtrN.intro (L0 := #[.val (.ref a1), .val (.ref a2)]) (plainFor_of_name pn2) O0 (own_entry rfl) ?_
  intro p e s m below meth c T0 hy hml hret hlk hnm W0
  refine o_aloadN W0 (pc' := 1) (hb hy d17_0) rfl rfl rfl ?_
  refine o_dup W0 (pc' := 2) (hb hy d17_1) rfl rfl ?_
  refine o_getF W0 (w113 hw) (Via.of (w114 hw)) F_a1_modCount (pc' := 5) (hb hy d17_2) rfl ?_
  intro T1 W1
  refine o_iconst W1 (v := 1) (pc' := 6) (hb hy d17_5) rfl rfl ?_
  refine o_iadd W1 (v := 3) (pc' := 7) (hb hy d17_6) (by decide) rfl ?_
  refine o_putF W1 (w113 hw) (Via.of (w114 hw)) F_a1_modCount E_a1 (Or.inl (w58 hw)) (w39 hw) (ty := .int) (v' := (.int 3)) (by decide) rfl rfl g_a1 (Or.inl (List.mem_of_getElem? (i := 0) rfl)) (fun _ _ => trivial) (pc' := 10) (hb hy d17_7) rfl ?_
  intro T2 h2 lo2 W2 R2
  have F2 := F_a1_modCount.same R2
  refine o_aloadN W2 (pc' := 11) (hb hy d17_10) rfl rfl rfl ?_
  refine o_aloadN W2 (pc' := 12) (hb hy d17_11) rfl rfl rfl ?_
  refine o_aloadN W2 (pc' := 13) (hb hy d17_12) rfl rfl rfl ?_
  have c3 := (F_a1_elementData.other R2 (Or.inr (slot_ne (Or.inl (w61 hw)) (Or.inl (w58 hw)) (by decide) (t := (.array (.object "java/lang/Object"))) (t' := .int) (by decide) (by decide))))
  refine o_getF W2 (w60 hw) Via.refl c3 (pc' := 16) (hb hy d17_13) rfl ?_
  intro T4 W4
  refine o_aloadN W4 (pc' := 17) (hb hy d17_16) rfl rfl rfl ?_
  have c5 := (F_a1_size.other R2 (Or.inr (slot_ne (Or.inl (w95 hw)) (Or.inl (w58 hw)) (by decide) (t := .int) (t' := .int) (by decide) (by decide))))
  refine o_getF W4 (w94 hw) Via.refl c5 (pc' := 20) (hb hy d17_17) rfl ?_
  intro T6 W6
  have c7 := (E_a3.wr R2)
  have c8 := (E_a1.wr R2)
  have c9 := (V_a3.other R2 (Exa.ne E_a3 E_a1 (by decide)))
  have c10 := (E_a2.wr R2)
  refine o_private W6 (y := (⟨"java/util/ArrayList", "add", "(Ljava/lang/Object;[Ljava/lang/Object;I)V"⟩ : MethodName)) (w115 hw) (w116 hw) (w118 hw) (w117 hw) (w119 hw) (by decide) c8 (argsL := [(.ref a2), (.ref a3), (.int 2)]) (CtrN.back (Wd := 0) W6 (rm46 l Z a0 hw a1 a2 a3 k_a3 a4 h2 W6.old c9 g_a3 O_a3 c10 c8 c5 c7 g_a1 F2 c3) (w119 hw) (w40 hw) (by decide) (by decide)) (by rw [hml]; rfl) (lenOf pd10 rfl) (S := []) rfl (by exact Nat.le_of_eq rfl) (pc' := 23) (hb hy d17_20) rfl (cells' := 0) (slots' := 0) rfl rfl (by decide) (by decide) (wy := [a3, a1]) (fun _ _ _ q => ⟨q.1, q.2.1⟩) (allS ⟨g_a3, (Or.inl (List.mem_of_getElem? (i := 1) rfl))⟩ (allS ⟨g_a1, (Or.inl (List.mem_of_getElem? (i := 0) rfl))⟩ all0)) (fun _ _ => trivial) ?_
  intro v11 T11 h11 lo11 W11 K11 q11
  obtain ⟨P11_0, P11_1, P11_2, P11_3, rfl⟩ := q11.2.2
  show Gl _ _ _ _ _ _ _ _ []
  refine o_iconst W11 (v := 1) (pc' := 24) (hb hy d17_23) rfl rfl ?_
  have c12 := (c8.keep K11)
  have c13 := (c7.keep K11)
  exact o_retN W11 hlk (t := .boolean) hret (by simp) (z' := (1 : Int32)) (by decide) (hb hy d17_24) (by decide) (by decide) ⟨P11_2, P11_3, P11_1, P11_0, rfl⟩
theorem rm48 (l : Launch) (Z : State) (a0 : Array Value) (hw : ∀ d ∈ tables_1, d.before a0 Z = true) (gO5 a1 a2 : Addr) (h0 : Heap) (O0 : Old Z Z.heap.size h0) (F_a1_e1 : Fld Z h0 a1 "java/util/ImmutableCollections$List12" "e1" "Ljava/lang/Object;" (.ref a2)) (SgO5_EMPTY : Sta Z Z.heap "java/util/ImmutableCollections" "EMPTY" "Ljava/lang/Object;" (.ref gO5)) (E_a2 : Exa Z h0 a2 "com/example/sessn/sessn/log/LoggedQuery") (XgO5 : Exa Z Z.heap gO5 "java/lang/Object") :
    CtrN l Z (⟨"java/util/ImmutableCollections$List12", "size", "()I"⟩ : MethodName) jdk_44_method_3_code 1 (some .int) [] (⟨0, 0, 0, 0⟩ : Room) #[(.ref a1)] h0 [] (fun v h => v = some (.int 2)) := by
  refine CtrN.intro (L0 := #[.val (.ref a1)]) (plainFor_of_name pn12) O0 (own_entry rfl) ?_
  intro p e s m below meth c T0 hy hml hret hlk hnm W0
  refine o_aloadN W0 (pc' := 1) (hb hy d33_0) rfl rfl rfl ?_
  refine o_getF W0 (w214 hw) Via.refl F_a1_e1 (pc' := 4) (hb hy d33_1) rfl ?_
  intro T1 W1
  refine o_getSN W1 (w213 hw) Via.refl (SgO5_EMPTY.ext W1.ox) (pc' := 7) (hb hy d33_4) rfl ?_
  intro T2 W2
  refine o_acmpN W2 (pc' := 10) (hb hy d33_7) rfl rfl (XT.aa_eq_f (fun q => (Exa.ne E_a2 (XgO5.ext W2.ox) (by decide)) (Value.ref.inj q))) rfl ?_
  refine o_iconst W2 (v := 2) (pc' := 11) (hb hy d33_10) rfl rfl ?_
  refine o_goto W2 (pc' := 15) (hb hy d33_11) (by decide) rfl ?_
  exact o_retI W2 hlk hret (hb hy d33_15) (by decide) (by decide) rfl
theorem rm49 (l : Launch) (Z : State) (a0 : Array Value) (hw : ∀ d ∈ tables_1, d.before a0 Z = true) (gO5 a1 a2 : Addr) (h0 : Heap) (O0 : Old Z Z.heap.size h0) (F_a1_e1 : Fld Z h0 a1 "java/util/ImmutableCollections$List12" "e1" "Ljava/lang/Object;" (.ref a2)) (SgO5_EMPTY : Sta Z Z.heap "java/util/ImmutableCollections" "EMPTY" "Ljava/lang/Object;" (.ref gO5)) (E_a2 : Exa Z h0 a2 "com/example/sessn/sessn/log/LoggedQuery") (XgO5 : Exa Z Z.heap gO5 "java/lang/Object") :
    CtrN l Z (⟨"java/util/ImmutableCollections$List12", "get", "(I)Ljava/lang/Object;"⟩ : MethodName) jdk_44_method_5_code 2 (some (.object "java/lang/Object")) [] (⟨0, 0, 0, 0⟩ : Room) #[(.ref a1), (.int 1)] h0 [] (fun v h => v = some (.ref a2)) := by
  refine CtrN.intro (L0 := #[.val (.ref a1), .val (.int 1)]) (plainFor_of_name pn12) O0 (own_entry rfl) ?_
  intro p e s m below meth c T0 hy hml hret hlk hnm W0
  refine o_iloadN W0 (pc' := 1) (hb hy d34_0) rfl rfl ?_
  refine o_ifY W0 (pc' := 9) (hb hy d34_1) (XT.i0_ne_t (by decide)) (by decide) rfl ?_
  refine o_iloadN W0 (pc' := 10) (hb hy d34_9) rfl rfl ?_
  refine o_iconst W0 (v := 1) (pc' := 11) (hb hy d34_10) rfl rfl ?_
  refine o_icmpN W0 (pc' := 14) (hb hy d34_11) (XT.ii_ne_f (by decide)) rfl ?_
  refine o_aloadN W0 (pc' := 15) (hb hy d34_14) rfl rfl rfl ?_
  refine o_getF W0 (w214 hw) Via.refl F_a1_e1 (pc' := 18) (hb hy d34_15) rfl ?_
  intro T1 W1
  refine o_getSN W1 (w213 hw) Via.refl (SgO5_EMPTY.ext W1.ox) (pc' := 21) (hb hy d34_18) rfl ?_
  intro T2 W2
  refine o_acmpN W2 (pc' := 24) (hb hy d34_21) rfl rfl (XT.aa_eq_f (fun q => (Exa.ne E_a2 (XgO5.ext W2.ox) (by decide)) (Value.ref.inj q))) rfl ?_
  refine o_aloadN W2 (pc' := 25) (hb hy d34_24) rfl rfl rfl ?_
  refine o_getF W2 (w214 hw) Via.refl F_a1_e1 (pc' := 28) (hb hy d34_25) rfl ?_
  intro T3 W3
  exact o_retA W3 hlk (v := (.ref a2)) hret rfl rfl (hb hy d34_28) (by decide) (by decide) rfl
theorem rm50 (l : Launch) (Z : State) (a0 : Array Value) (hw : ∀ d ∈ tables_1, d.before a0 Z = true) (gO5 a1 a2 a3 : Addr) (h0 : Heap) (O0 : Old Z Z.heap.size h0) (F_a1_queries : Fld Z h0 a1 "com/example/sessn/sessn/log/LoggedSession" "queries" "Ljava/util/List;" (.ref a2)) (E_a2 : Exa Z h0 a2 "java/util/ImmutableCollections$List12") (F_a2_e1 : Fld Z h0 a2 "java/util/ImmutableCollections$List12" "e1" "Ljava/lang/Object;" (.ref a3)) (SgO5_EMPTY : Sta Z Z.heap "java/util/ImmutableCollections" "EMPTY" "Ljava/lang/Object;" (.ref gO5)) (E_a3 : Exa Z h0 a3 "com/example/sessn/sessn/log/LoggedQuery") (XgO5 : Exa Z Z.heap gO5 "java/lang/Object") :
    CtrN l Z (⟨"com/example/sessn/sessn/log/LoggedSession", "current", "()Lcom/example/sessn/sessn/log/LoggedQuery;"⟩ : MethodName) prog_20_method_3_code 1 (some (.object "com/example/sessn/sessn/log/LoggedQuery")) [] (⟨1, 0, 0, 13⟩ : Room) #[(.ref a1)] h0 [] (fun v h => v = some (.ref a3)) := by
  refine CtrN.intro (L0 := #[.val (.ref a1)]) (plainFor_of_name pn13) O0 (own_entry rfl) ?_
  intro p e s m below meth c T0 hy hml hret hlk hnm W0
  refine o_aloadN W0 (pc' := 1) (hb hy d32_0) rfl rfl rfl ?_
  refine o_getF W0 (w218 hw) Via.refl F_a1_queries (pc' := 4) (hb hy d32_1) rfl ?_
  intro T1 W1
  refine o_aloadN W1 (pc' := 5) (hb hy d32_4) rfl rfl rfl ?_
  refine o_getF W1 (w218 hw) Via.refl F_a1_queries (pc' := 8) (hb hy d32_5) rfl ?_
  intro T2 W2
  refine o_iface W2 (y := (⟨"java/util/List", "size", "()I"⟩ : MethodName)) (z := (⟨"java/util/ImmutableCollections$List12", "size", "()I"⟩ : MethodName)) (w225 hw) (w226 hw) (w227 hw) (w228 hw) (w229 hw) (w230 hw) (w231 hw) (w232 hw) (by decide) E_a2 (argsL := []) (CtrN.back (Wd := 1) W2 (rm48 l Z a0 hw gO5 a2 a3 h0 W2.old F_a2_e1 SgO5_EMPTY E_a3 XgO5) (w233 hw) (w188 hw) (by decide) (by decide)) (by rw [hml]; rfl) (lenOf pd18 rfl) (S := [(.ref a2)]) rfl (by exact Nat.le_of_eq rfl) (pc' := 13) (hb hy d32_8) rfl (cells' := 0) (slots' := 0) rfl rfl (by decide) (by decide) (wy := []) (fun _ _ _ q => ⟨q.1, q.2.1⟩) all0 (fun _ _ => trivial) ?_
  intro v3 T3 h3 lo3 W3 K3 q3
  obtain rfl := q3.2.2
  show Gl _ _ _ _ _ _ _ _ [(.int 2), (.ref a2)]
  refine o_iconst W3 (v := 1) (pc' := 14) (hb hy d32_13) rfl rfl ?_
  refine o_isub W3 (v := 1) (pc' := 15) (hb hy d32_14) (by decide) rfl ?_
  have c4 := (F_a2_e1.keep K3 nin0)
  have c5 := (E_a3.keep K3)
  have c6 := (E_a2.keep K3)
  refine o_iface W3 (y := (⟨"java/util/List", "get", "(I)Ljava/lang/Object;"⟩ : MethodName)) (z := (⟨"java/util/ImmutableCollections$List12", "get", "(I)Ljava/lang/Object;"⟩ : MethodName)) (w234 hw) (w235 hw) (w236 hw) (w237 hw) (w238 hw) (w239 hw) (w240 hw) (w232 hw) (by decide) c6 (argsL := [(.int 1)]) (CtrN.back (Wd := 0) W3 (rm49 l Z a0 hw gO5 a2 a3 h3 W3.old c4 SgO5_EMPTY c5 XgO5) (w241 hw) (w188 hw) (by decide) (by decide)) (by rw [hml]; rfl) (lenOf pd19 rfl) (S := []) rfl (by exact Nat.le_of_eq rfl) (pc' := 20) (hb hy d32_15) rfl (cells' := 0) (slots' := 0) rfl rfl (by decide) (by decide) (wy := []) (fun _ _ _ q => ⟨q.1, q.2.1⟩) all0 (fun _ _ => trivial) ?_
  intro v7 T7 h7 lo7 W7 K7 q7
  obtain rfl := q7.2.2
  show Gl _ _ _ _ _ _ _ _ [(.ref a3)]
  have c8 := (c5.keep K7)
  refine o_cast W7 (w242 hw) (Ins.self c8) (pc' := 23) (hb hy d32_20) rfl ?_
  intro T9 W9
  exact o_retA W9 hlk (v := (.ref a3)) hret rfl rfl (hb hy d32_23) (by decide) (by decide) rfl
theorem rm51 (l : Launch) (Z : State) (a0 : Array Value) (hw : ∀ d ∈ tables_1, d.before a0 Z = true) (a1 a2 a3 : Addr) (k_a3 : ClassId) (a4 a5 : Addr) (h0 : Heap) (O0 : Old Z Z.heap.size h0) (V_a3 : Arv Z h0 a3 k_a3 (.object "java/lang/Object") (10 : Int32) [(.ref a4), (.ref a5), .null, .null, .null, .null, .null, .null, .null, .null] .null) (g_a3 : Z.heap.size ≤ a3) (O_a3 : Ovr Z k_a3 "java/lang/Object") (E_a2 : Exa Z h0 a2 "com/example/sessn/sessn/log/LoggedQuery") (E_a1 : Exa Z h0 a1 "java/util/ArrayList") (F_a1_size : Fld Z h0 a1 "java/util/ArrayList" "size" "I" (.int 2)) (E_a3 : Exa Z h0 a3 "[Ljava/lang/Object;") (g_a1 : Z.heap.size ≤ a1) (F_a1_modCount : Fld Z h0 a1 "java/util/AbstractList" "modCount" "I" (.int 3)) (F_a1_elementData : Fld Z h0 a1 "java/util/ArrayList" "elementData" "[Ljava/lang/Object;" (.ref a3)) :
    CtrN l Z (⟨"java/util/ArrayList", "add", "(Ljava/lang/Object;[Ljava/lang/Object;I)V"⟩ : MethodName) jdk_38_method_24_code 4 none [] (⟨0, 0, 0, 0⟩ : Room) #[(.ref a1), (.ref a2), (.ref a3), (.int 2)] h0 [a3, a1] (fun v h => Arv Z h a3 k_a3 (.object "java/lang/Object") (10 : Int32) [(.ref a4), (.ref a5), (.ref a2), .null, .null, .null, .null, .null, .null, .null] .null ∧ Fld Z h a1 "java/util/ArrayList" "size" "I" (.int 3) ∧ Fld Z h a1 "java/util/AbstractList" "modCount" "I" (.int 3) ∧ Fld Z h a1 "java/util/ArrayList" "elementData" "[Ljava/lang/Object;" (.ref a3) ∧ v = none) := by
  refine CtrN.intro (L0 := #[.val (.ref a1), .val (.ref a2), .val (.ref a3), .val (.int 2)]) (plainFor_of_name pn2) O0 (own_entry rfl) ?_
  intro p e s m below meth c T0 hy hml hret hlk hnm W0
  refine o_iloadN W0 (pc' := 1) (hb hy d18_0) rfl rfl ?_
  refine o_aloadN W0 (pc' := 2) (hb hy d18_1) rfl rfl rfl ?_
  refine o_len W0 V_a3 (pc' := 3) (hb hy d18_2) rfl ?_
  refine o_icmpY W0 (pc' := 11) (hb hy d18_3) (XT.ii_ne_t (by decide)) (by decide) rfl ?_
  refine o_aloadN W0 (pc' := 12) (hb hy d18_11) rfl rfl rfl ?_
  refine o_iloadN W0 (pc' := 13) (hb hy d18_12) rfl rfl ?_
  refine o_aloadN W0 (pc' := 14) (hb hy d18_13) rfl rfl rfl ?_
  refine o_stR W0 V_a3 (i := 2) rfl rfl (own_stoV V_a3 O_a3 (Ins.of_exa E_a2 (w136 hw))) (by decide) (by decide) (by decide) (Nat.lt_of_sub_eq_succ rfl) (vs' := [(.ref a4), (.ref a5), (.ref a2), .null, .null, .null, .null, .null, .null, .null]) rfl g_a3 (Or.inl (List.mem_of_getElem? (i := 0) rfl)) (fun _ _ => trivial) (pc' := 15) (hb hy d18_14) rfl ?_
  intro T1 h1 lo1 W1 R1 V1
  refine o_aloadN W1 (pc' := 16) (hb hy d18_15) rfl rfl rfl ?_
  refine o_iloadN W1 (pc' := 17) (hb hy d18_16) rfl rfl ?_
  refine o_iconst W1 (v := 1) (pc' := 18) (hb hy d18_17) rfl rfl ?_
  refine o_iadd W1 (v := 3) (pc' := 19) (hb hy d18_18) (by decide) rfl ?_
  have c2 := (E_a1.wr R1)
  have c3 := (E_a3.wr R1)
  have c4 := (F_a1_size.other R1 (Or.inl (Exa.ne E_a1 E_a3 (by decide))))
  refine o_putF W1 (w94 hw) Via.refl c4 c2 (Or.inl (w95 hw)) (w39 hw) (ty := .int) (v' := (.int 3)) (by decide) rfl rfl g_a1 (Or.inl (List.mem_of_getElem? (i := 1) rfl)) (fun _ _ => trivial) (pc' := 22) (hb hy d18_19) rfl ?_
  intro T5 h5 lo5 W5 R5
  have F5 := c4.same R5
  have c6 := (c2.wr R5)
  have c7 := (c3.wr R5)
  have c8 := ((F_a1_modCount.other R1 (Or.inl (Exa.ne E_a1 E_a3 (by decide)))).other R5 (Or.inr (slot_ne (Or.inl (w58 hw)) (Or.inl (w95 hw)) (by decide) (t := .int) (t' := .int) (by decide) (by decide))))
  have c9 := ((F_a1_elementData.other R1 (Or.inl (Exa.ne E_a1 E_a3 (by decide)))).other R5 (Or.inr (slot_ne (Or.inl (w61 hw)) (Or.inl (w95 hw)) (by decide) (t := (.array (.object "java/lang/Object"))) (t' := .int) (by decide) (by decide))))
  have c10 := (V1.other R5 (Exa.ne c3 c2 (by decide)))
  exact o_ret0 W5 hlk hret (hb hy d18_22) (by decide) (by decide) ⟨c10, F5, c8, c9, rfl⟩
theorem rm52 (l : Launch) (Z : State) (a0 : Array Value) (hw : ∀ d ∈ tables_1, d.before a0 Z = true) (a1 a2 a3 : Addr) (k_a3 : ClassId) (a4 a5 : Addr) (h0 : Heap) (O0 : Old Z Z.heap.size h0) (F_a1_modCount : Fld Z h0 a1 "java/util/AbstractList" "modCount" "I" (.int 2)) (E_a1 : Exa Z h0 a1 "java/util/ArrayList") (g_a1 : Z.heap.size ≤ a1) (F_a1_elementData : Fld Z h0 a1 "java/util/ArrayList" "elementData" "[Ljava/lang/Object;" (.ref a3)) (F_a1_size : Fld Z h0 a1 "java/util/ArrayList" "size" "I" (.int 2)) (V_a3 : Arv Z h0 a3 k_a3 (.object "java/lang/Object") (10 : Int32) [(.ref a4), (.ref a5), .null, .null, .null, .null, .null, .null, .null, .null] .null) (E_a3 : Exa Z h0 a3 "[Ljava/lang/Object;") (O_a3 : Ovr Z k_a3 "java/lang/Object") (E_a2 : Exa Z h0 a2 "com/example/sessn/sessn/log/LoggedQuery") (g_a3 : Z.heap.size ≤ a3) :
    CtrN l Z (⟨"java/util/ArrayList", "add", "(Ljava/lang/Object;)Z"⟩ : MethodName) jdk_38_method_25_code 2 (some .boolean) [] (⟨1, 0, 0, 15⟩ : Room) #[(.ref a1), (.ref a2)] h0 [a1, a3] (fun v h => Fld Z h a1 "java/util/AbstractList" "modCount" "I" (.int 3) ∧ Fld Z h a1 "java/util/ArrayList" "elementData" "[Ljava/lang/Object;" (.ref a3) ∧ Fld Z h a1 "java/util/ArrayList" "size" "I" (.int 3) ∧ Arv Z h a3 k_a3 (.object "java/lang/Object") (10 : Int32) [(.ref a4), (.ref a5), (.ref a2), .null, .null, .null, .null, .null, .null, .null] .null ∧ v = some (.int 1)) := by
  refine CtrN.intro (L0 := #[.val (.ref a1), .val (.ref a2)]) (plainFor_of_name pn2) O0 (own_entry rfl) ?_
  intro p e s m below meth c T0 hy hml hret hlk hnm W0
  refine o_aloadN W0 (pc' := 1) (hb hy d17_0) rfl rfl rfl ?_
  refine o_dup W0 (pc' := 2) (hb hy d17_1) rfl rfl ?_
  refine o_getF W0 (w113 hw) (Via.of (w114 hw)) F_a1_modCount (pc' := 5) (hb hy d17_2) rfl ?_
  intro T1 W1
  refine o_iconst W1 (v := 1) (pc' := 6) (hb hy d17_5) rfl rfl ?_
  refine o_iadd W1 (v := 3) (pc' := 7) (hb hy d17_6) (by decide) rfl ?_
  refine o_putF W1 (w113 hw) (Via.of (w114 hw)) F_a1_modCount E_a1 (Or.inl (w58 hw)) (w39 hw) (ty := .int) (v' := (.int 3)) (by decide) rfl rfl g_a1 (Or.inl (List.mem_of_getElem? (i := 0) rfl)) (fun _ _ => trivial) (pc' := 10) (hb hy d17_7) rfl ?_
  intro T2 h2 lo2 W2 R2
  have F2 := F_a1_modCount.same R2
  refine o_aloadN W2 (pc' := 11) (hb hy d17_10) rfl rfl rfl ?_
  refine o_aloadN W2 (pc' := 12) (hb hy d17_11) rfl rfl rfl ?_
  refine o_aloadN W2 (pc' := 13) (hb hy d17_12) rfl rfl rfl ?_
  have c3 := (F_a1_elementData.other R2 (Or.inr (slot_ne (Or.inl (w61 hw)) (Or.inl (w58 hw)) (by decide) (t := (.array (.object "java/lang/Object"))) (t' := .int) (by decide) (by decide))))
  refine o_getF W2 (w60 hw) Via.refl c3 (pc' := 16) (hb hy d17_13) rfl ?_
  intro T4 W4
  refine o_aloadN W4 (pc' := 17) (hb hy d17_16) rfl rfl rfl ?_
  have c5 := (F_a1_size.other R2 (Or.inr (slot_ne (Or.inl (w95 hw)) (Or.inl (w58 hw)) (by decide) (t := .int) (t' := .int) (by decide) (by decide))))
  refine o_getF W4 (w94 hw) Via.refl c5 (pc' := 20) (hb hy d17_17) rfl ?_
  intro T6 W6
  have c7 := (E_a3.wr R2)
  have c8 := (E_a1.wr R2)
  have c9 := (V_a3.other R2 (Exa.ne E_a3 E_a1 (by decide)))
  have c10 := (E_a2.wr R2)
  refine o_private W6 (y := (⟨"java/util/ArrayList", "add", "(Ljava/lang/Object;[Ljava/lang/Object;I)V"⟩ : MethodName)) (w115 hw) (w116 hw) (w118 hw) (w117 hw) (w119 hw) (by decide) c8 (argsL := [(.ref a2), (.ref a3), (.int 2)]) (CtrN.back (Wd := 0) W6 (rm51 l Z a0 hw a1 a2 a3 k_a3 a4 a5 h2 W6.old c9 g_a3 O_a3 c10 c8 c5 c7 g_a1 F2 c3) (w119 hw) (w40 hw) (by decide) (by decide)) (by rw [hml]; rfl) (lenOf pd10 rfl) (S := []) rfl (by exact Nat.le_of_eq rfl) (pc' := 23) (hb hy d17_20) rfl (cells' := 0) (slots' := 0) rfl rfl (by decide) (by decide) (wy := [a3, a1]) (fun _ _ _ q => ⟨q.1, q.2.1⟩) (allS ⟨g_a3, (Or.inl (List.mem_of_getElem? (i := 1) rfl))⟩ (allS ⟨g_a1, (Or.inl (List.mem_of_getElem? (i := 0) rfl))⟩ all0)) (fun _ _ => trivial) ?_
  intro v11 T11 h11 lo11 W11 K11 q11
  obtain ⟨P11_0, P11_1, P11_2, P11_3, rfl⟩ := q11.2.2
  show Gl _ _ _ _ _ _ _ _ []
  refine o_iconst W11 (v := 1) (pc' := 24) (hb hy d17_23) rfl rfl ?_
  have c12 := (c8.keep K11)
  have c13 := (c7.keep K11)
  exact o_retN W11 hlk (t := .boolean) hret (by simp) (z' := (1 : Int32)) (by decide) (hb hy d17_24) (by decide) (by decide) ⟨P11_2, P11_3, P11_1, P11_0, rfl⟩
theorem rm53 (l : Launch) (Z : State) (a0 : Array Value) (hw : ∀ d ∈ tables_1, d.before a0 Z = true) (a1 : Addr) (h0 : Heap) (O0 : Old Z Z.heap.size h0) (F_a1_size : Fld Z h0 a1 "java/util/ArrayList" "size" "I" (.int 3)) :
    CtrN l Z (⟨"java/util/ArrayList", "isEmpty", "()Z"⟩ : MethodName) jdk_38_method_9_code 1 (some .boolean) [] (⟨0, 0, 0, 0⟩ : Room) #[(.ref a1)] h0 [] (fun v h => v = some (.int 0)) := by
  refine CtrN.intro (L0 := #[.val (.ref a1)]) (plainFor_of_name pn2) O0 (own_entry rfl) ?_
  intro p e s m below meth c T0 hy hml hret hlk hnm W0
  refine o_aloadN W0 (pc' := 1) (hb hy d15_0) rfl rfl rfl ?_
  refine o_getF W0 (w94 hw) Via.refl F_a1_size (pc' := 4) (hb hy d15_1) rfl ?_
  intro T1 W1
  refine o_ifY W1 (pc' := 11) (hb hy d15_4) (XT.i0_ne_t (by decide)) (by decide) rfl ?_
  refine o_iconst W1 (v := 0) (pc' := 12) (hb hy d15_11) rfl rfl ?_
  exact o_retN W1 hlk (t := .boolean) hret (by simp) (z' := (0 : Int32)) (by decide) (hb hy d15_12) (by decide) (by decide) rfl
theorem rm54 (l : Launch) (Z : State) (a0 : Array Value) (hw : ∀ d ∈ tables_1, d.before a0 Z = true)  (h0 : Heap) (O0 : Old Z Z.heap.size h0) :
    CtrN l Z (⟨"java/lang/Math", "min", "(II)I"⟩ : MethodName) jdk_29_method_69_code 2 (some .int) [] (⟨0, 0, 0, 0⟩ : Room) #[(.int 10), (.int 3)] h0 [] (fun v h => v = some (.int 3)) := by
  refine CtrN.intro (L0 := #[.val (.int 10), .val (.int 3)]) (Jvm.Free.JP.mathPlain rfl (by decide +kernel)) O0 (own_entry rfl) ?_
  intro p e s m below meth c T0 hy hml hret hlk hnm W0
  refine o_iloadN W0 (pc' := 1) (hb hy d26_0) rfl rfl ?_
  refine o_iloadN W0 (pc' := 2) (hb hy d26_1) rfl rfl ?_
  refine o_icmpY W0 (pc' := 9) (hb hy d26_2) (XT.ii_gt_t (by decide)) (by decide) rfl ?_
  refine o_iloadN W0 (pc' := 10) (hb hy d26_9) rfl rfl ?_
  exact o_retI W0 hlk hret (hb hy d26_10) (by decide) (by decide) rfl
theorem rm55 (l : Launch) (Z : State) (a0 : Array Value) (hw : ∀ d ∈ tables_1, d.before a0 Z = true) (gMO a1 : Addr) (k_a1 : ClassId) (a2 a3 a4 : Addr) (h0 : Heap) (O0 : Old Z Z.heap.size h0) (MgMO : MirW Z "[Ljava/lang/Object;" gMO) (V_a1 : Arv Z h0 a1 k_a1 (.object "java/lang/Object") (10 : Int32) [(.ref a2), (.ref a3), (.ref a4), .null, .null, .null, .null, .null, .null, .null] .null) (E_a4 : Exa Z h0 a4 "com/example/sessn/sessn/log/LoggedQuery") (E_a3 : Exa Z h0 a3 "com/example/sessn/sessn/log/LoggedQuery") (E_a2 : Exa Z h0 a2 "com/example/sessn/sessn/log/LoggedQuery") :
    CtrN l Z (⟨"java/util/Arrays", "copyOf", "([Ljava/lang/Object;ILjava/lang/Class;)[Ljava/lang/Object;"⟩ : MethodName) jdk_65_method_120_code 4 (some (.array (.object "java/lang/Object"))) [] (⟨1, 1, 3, 27⟩ : Room) #[(.ref a1), (.int 3), (.ref gMO)] h0 [] (fun v h => ∃ r1 : Addr, ∃ r2 : ClassId, h0.size ≤ r1 ∧ Arv Z h r1 r2 (.object "java/lang/Object") (3 : Int32) [(.ref a2), (.ref a3), (.ref a4)] .null ∧ Ovr Z r2 "java/lang/Object" ∧ Exa Z h r1 "[Ljava/lang/Object;" ∧ v = some (.ref r1)) := by
  refine CtrN.intro (L0 := #[.val (.ref a1), .val (.int 3), .val (.ref gMO), .unset]) (plainFor_of_name pn8) O0 (own_entry rfl) ?_
  intro p e s m below meth c T0 hy hml hret hlk hnm W0
  refine o_aloadN W0 (pc' := 1) (hb hy d25_0) rfl rfl rfl ?_
  refine o_ldcM W0 (w174 hw) MgMO (pc' := 3) (hb hy d25_1) rfl ?_
  intro T1 W1
  refine o_acmpN W1 (pc' := 6) (hb hy d25_3) rfl rfl (XT.aa_ne_f rfl) rfl ?_
  refine o_iloadN W1 (pc' := 7) (hb hy d25_6) rfl rfl ?_
  refine o_newRE W1 (w175 hw) (w135 hw) (fun _ _ => trivial) (ad := "[Ljava/lang/Object;") (by decide) (by decide) (cap := 3) (by decide) (by decide) (pc' := 10) (hb hy d25_7) rfl (cells' := 1) (slots' := 3) rfl rfl (by decide) (by decide) (vs := [.null, .null, .null]) rfl ?_
  intro b2 T2 h2 k2 W2 E2 ge2 gz2 gb2 V2 O2 A2
  refine o_goto W2 (pc' := 24) (hb hy d25_10) (by decide) rfl ?_
  refine o_astoreN W2 (L' := #[.val (.ref a1), .val (.int 3), .val (.ref gMO), .val (.ref b2)]) (pc' := 25) (hb hy d25_24) rfl rfl rfl ?_
  refine o_aloadN W2 (pc' := 26) (hb hy d25_25) rfl rfl rfl ?_
  refine o_iconst W2 (v := 0) (pc' := 27) (hb hy d25_26) rfl rfl ?_
  refine o_aloadN W2 (pc' := 28) (hb hy d25_27) rfl rfl rfl ?_
  refine o_iconst W2 (v := 0) (pc' := 29) (hb hy d25_28) rfl rfl ?_
  refine o_aloadN W2 (pc' := 30) (hb hy d25_29) rfl rfl rfl ?_
  have c3 := (V_a1.ext E2)
  refine o_len W2 c3 (pc' := 31) (hb hy d25_30) rfl ?_
  refine o_iloadN W2 (pc' := 32) (hb hy d25_31) rfl rfl ?_
  refine o_static W2 (y := (⟨"java/lang/Math", "min", "(II)I"⟩ : MethodName)) (w176 hw) (w177 hw) (w132 hw) (w178 hw) (by decide) (argsL := [(.int 10), (.int 3)]) (CtrN.back (Wd := 4) W2 (rm54 l Z a0 hw  h2 W2.old ) (w178 hw) (w132 hw) (by decide) (by decide)) (by rw [hml]; rfl) (lenOf pd7 rfl) (S := [(.int 0), (.ref b2), (.int 0), (.ref a1)]) rfl (by exact Nat.le_of_eq rfl) (pc' := 35) (hb hy d25_32) rfl (cells' := 1) (slots' := 3) rfl rfl (by decide) (by decide) (wy := []) (fun _ _ _ q => ⟨q.1, q.2.1⟩) all0 (fun _ _ => trivial) ?_
  intro v4 T4 h4 lo4 W4 K4 q4
  obtain rfl := q4.2.2
  show Gl _ _ _ _ _ _ _ _ [(.int 3), (.int 0), (.ref b2), (.int 0), (.ref a1)]
  have c5 := (c3.keep K4 nin0)
  have c6 := (V2.keep K4 nin0)
  have c7 := ((E_a4.ext E2).keep K4)
  have c8 := ((E_a3.ext E2).keep K4)
  have c9 := ((E_a2.ext E2).keep K4)
  refine o_copy W4 (w179 hw) (w182 hw) (w180 hw) (w181 hw) c5 c6 (us := [(.ref a2), (.ref a3), (.ref a4)]) (Or.inr ⟨rfl, rfl, ⟨(own_stoV c6 O2 (Ins.of_exa c9 (w136 hw))), ⟨(own_stoV c6 O2 (Ins.of_exa c8 (w136 hw))), ⟨(own_stoV c6 O2 (Ins.of_exa c7 (w136 hw))), trivial⟩⟩⟩⟩) (by decide) (by decide) (by decide) (by decide) (by decide) rfl (Nat.le_of_ble_eq_true rfl) (vd' := [(.ref a2), (.ref a3), (.ref a4)]) rfl gz2 (Or.inr gb2) (fun _ _ => trivial) (by rw [hml]; rfl) (pc' := 38) (hb hy d25_35) rfl (by decide) 0 (by exact Nat.le_of_eq rfl) (by decide) ?_
  intro T10 h10 lo10 W10 K10 V10
  refine o_aloadN W10 (pc' := 39) (hb hy d25_38) rfl rfl rfl ?_
  have c11 := ((A2.keep K4).keep K10)
  exact o_retA W10 hlk (v := (.ref b2)) hret rfl rfl (hb hy d25_39) (by decide) (by decide) ⟨b2, k2, gb2, V10, O2, c11, rfl⟩
theorem rm56 (l : Launch) (Z : State) (a0 : Array Value) (hw : ∀ d ∈ tables_1, d.before a0 Z = true) (gMO a1 : Addr) (k_a1 : ClassId) (a2 a3 a4 : Addr) (h0 : Heap) (O0 : Old Z Z.heap.size h0) (E_a1 : Exa Z h0 a1 "[Ljava/lang/Object;") (MgMO : MirW Z "[Ljava/lang/Object;" gMO) (V_a1 : Arv Z h0 a1 k_a1 (.object "java/lang/Object") (10 : Int32) [(.ref a2), (.ref a3), (.ref a4), .null, .null, .null, .null, .null, .null, .null] .null) (E_a4 : Exa Z h0 a4 "com/example/sessn/sessn/log/LoggedQuery") (E_a3 : Exa Z h0 a3 "com/example/sessn/sessn/log/LoggedQuery") (E_a2 : Exa Z h0 a2 "com/example/sessn/sessn/log/LoggedQuery") :
    CtrN l Z (⟨"java/util/Arrays", "copyOf", "([Ljava/lang/Object;I)[Ljava/lang/Object;"⟩ : MethodName) jdk_65_method_119_code 2 (some (.array (.object "java/lang/Object"))) [] (⟨2, 1, 3, 42⟩ : Room) #[(.ref a1), (.int 3)] h0 [] (fun v h => ∃ r1 : Addr, ∃ r2 : ClassId, h0.size ≤ r1 ∧ Arv Z h r1 r2 (.object "java/lang/Object") (3 : Int32) [(.ref a2), (.ref a3), (.ref a4)] .null ∧ Ovr Z r2 "java/lang/Object" ∧ Exa Z h r1 "[Ljava/lang/Object;" ∧ v = some (.ref r1)) := by
  refine CtrN.intro (L0 := #[.val (.ref a1), .val (.int 3)]) (plainFor_of_name pn8) O0 (own_entry rfl) ?_
  intro p e s m below meth c T0 hy hml hret hlk hnm W0
  refine o_aloadN W0 (pc' := 1) (hb hy d24_0) rfl rfl rfl ?_
  refine o_iloadN W0 (pc' := 2) (hb hy d24_1) rfl rfl ?_
  refine o_aloadN W0 (pc' := 3) (hb hy d24_2) rfl rfl rfl ?_
  refine o_gcls W0 (w165 hw) (w166 hw) (w83 hw) (w168 hw) (w167 hw) (w169 hw) E_a1 MgMO (by rw [hml]; rfl) (pc' := 6) (hb hy d24_3) rfl (by decide) 2 (by exact Nat.le_of_eq rfl) (by decide) ?_
  intro T1 W1
  refine o_static W1 (y := (⟨"java/util/Arrays", "copyOf", "([Ljava/lang/Object;ILjava/lang/Class;)[Ljava/lang/Object;"⟩ : MethodName)) (w171 hw) (w172 hw) (w163 hw) (w173 hw) (by decide) (argsL := [(.ref a1), (.int 3), (.ref gMO)]) (CtrN.back (Wd := 0) W1 (rm55 l Z a0 hw gMO a1 k_a1 a2 a3 a4 h0 W1.old MgMO V_a1 E_a4 E_a3 E_a2) (w173 hw) (w163 hw) (by decide) (by decide)) (by rw [hml]; rfl) (lenOf pd12 rfl) (S := []) rfl (by exact Nat.le_of_eq rfl) (pc' := 9) (hb hy d24_6) rfl (cells' := 1) (slots' := 3) rfl rfl (by decide) (by decide) (wy := []) (fun _ _ _ q => ⟨q.1, q.2.1⟩) all0 (fun _ _ => trivial) ?_
  intro v2 T2 h2 lo2 W2 K2 q2
  obtain ⟨r1_2, r2_2, P2_0, P2_1, P2_2, P2_3, rfl⟩ := q2.2.2
  show Gl _ _ _ _ _ _ _ _ [(.ref r1_2)]
  exact o_retA W2 hlk (v := (.ref r1_2)) hret rfl rfl (hb hy d24_9) (by decide) (by decide) ⟨r1_2, r2_2, (Nat.le_trans W1.keep.1 P2_0), P2_1, P2_2, P2_3, rfl⟩
theorem rm57 (l : Launch) (Z : State) (a0 : Array Value) (hw : ∀ d ∈ tables_1, d.before a0 Z = true) (gMO a1 a2 : Addr) (k_a2 : ClassId) (a3 a4 a5 : Addr) (h0 : Heap) (O0 : Old Z Z.heap.size h0) (F_a1_elementData : Fld Z h0 a1 "java/util/ArrayList" "elementData" "[Ljava/lang/Object;" (.ref a2)) (F_a1_size : Fld Z h0 a1 "java/util/ArrayList" "size" "I" (.int 3)) (E_a2 : Exa Z h0 a2 "[Ljava/lang/Object;") (MgMO : MirW Z "[Ljava/lang/Object;" gMO) (V_a2 : Arv Z h0 a2 k_a2 (.object "java/lang/Object") (10 : Int32) [(.ref a3), (.ref a4), (.ref a5), .null, .null, .null, .null, .null, .null, .null] .null) (E_a5 : Exa Z h0 a5 "com/example/sessn/sessn/log/LoggedQuery") (E_a4 : Exa Z h0 a4 "com/example/sessn/sessn/log/LoggedQuery") (E_a3 : Exa Z h0 a3 "com/example/sessn/sessn/log/LoggedQuery") :
    CtrN l Z (⟨"java/util/ArrayList", "toArray", "()[Ljava/lang/Object;"⟩ : MethodName) jdk_38_method_16_code 1 (some (.array (.object "java/lang/Object"))) [] (⟨3, 1, 3, 55⟩ : Room) #[(.ref a1)] h0 [] (fun v h => ∃ r1 : Addr, ∃ r2 : ClassId, h0.size ≤ r1 ∧ Arv Z h r1 r2 (.object "java/lang/Object") (3 : Int32) [(.ref a3), (.ref a4), (.ref a5)] .null ∧ Ovr Z r2 "java/lang/Object" ∧ Exa Z h r1 "[Ljava/lang/Object;" ∧ v = some (.ref r1)) := by
  refine CtrN.intro (L0 := #[.val (.ref a1)]) (plainFor_of_name pn2) O0 (own_entry rfl) ?_
  intro p e s m below meth c T0 hy hml hret hlk hnm W0
  refine o_aloadN W0 (pc' := 1) (hb hy d23_0) rfl rfl rfl ?_
  refine o_getF W0 (w60 hw) Via.refl F_a1_elementData (pc' := 4) (hb hy d23_1) rfl ?_
  intro T1 W1
  refine o_aloadN W1 (pc' := 5) (hb hy d23_4) rfl rfl rfl ?_
  refine o_getF W1 (w94 hw) Via.refl F_a1_size (pc' := 8) (hb hy d23_5) rfl ?_
  intro T2 W2
  refine o_static W2 (y := (⟨"java/util/Arrays", "copyOf", "([Ljava/lang/Object;I)[Ljava/lang/Object;"⟩ : MethodName)) (w161 hw) (w162 hw) (w163 hw) (w164 hw) (by decide) (argsL := [(.ref a2), (.int 3)]) (CtrN.back (Wd := 0) W2 (rm56 l Z a0 hw gMO a2 k_a2 a3 a4 a5 h0 W2.old E_a2 MgMO V_a2 E_a5 E_a4 E_a3) (w164 hw) (w163 hw) (by decide) (by decide)) (by rw [hml]; rfl) (lenOf pd13 rfl) (S := []) rfl (by exact Nat.le_of_eq rfl) (pc' := 11) (hb hy d23_8) rfl (cells' := 1) (slots' := 3) rfl rfl (by decide) (by decide) (wy := []) (fun _ _ _ q => ⟨q.1, q.2.1⟩) all0 (fun _ _ => trivial) ?_
  intro v3 T3 h3 lo3 W3 K3 q3
  obtain ⟨r1_3, r2_3, P3_0, P3_1, P3_2, P3_3, rfl⟩ := q3.2.2
  show Gl _ _ _ _ _ _ _ _ [(.ref r1_3)]
  exact o_retA W3 hlk (v := (.ref r1_3)) hret rfl rfl (hb hy d23_11) (by decide) (by decide) ⟨r1_3, r2_3, (Nat.le_trans W2.keep.1 P3_0), P3_1, P3_2, P3_3, rfl⟩
theorem rm58 (l : Launch) (Z : State) (a0 : Array Value) (hw : ∀ d ∈ tables_1, d.before a0 Z = true) (a1 a2 : Addr) (h0 : Heap) (O0 : Old Z Z.heap.size h0) (E_a1 : Exa Z h0 a1 "java/util/ImmutableCollections$ListN") (F_a1_elements : Fld Z h0 a1 "java/util/ImmutableCollections$ListN" "elements" "[Ljava/lang/Object;" .null) (g_a1 : Z.heap.size ≤ a1) (F_a1_allowNulls : Fld Z h0 a1 "java/util/ImmutableCollections$ListN" "allowNulls" "Z" (.int 0)) :
    CtrN l Z (⟨"java/util/ImmutableCollections$ListN", "<init>", "([Ljava/lang/Object;Z)V"⟩ : MethodName) jdk_45_method_1_code 3 none [] (⟨4, 0, 0, 48⟩ : Room) #[(.ref a1), (.ref a2), (.int 0)] h0 [a1] (fun v h => Fld Z h a1 "java/util/ImmutableCollections$ListN" "elements" "[Ljava/lang/Object;" (.ref a2) ∧ Fld Z h a1 "java/util/ImmutableCollections$ListN" "allowNulls" "Z" (.int 0) ∧ v = none) := by
  refine CtrN.intro (L0 := #[.val (.ref a1), .val (.ref a2), .val (.int 0)]) (plainFor_of_name pn14) O0 (own_entry rfl) ?_
  intro p e s m below meth c T0 hy hml hret hlk hnm W0
  refine o_aloadN W0 (pc' := 1) (hb hy d37_0) rfl rfl rfl ?_
  refine o_special W0 (y := (⟨"java/util/ImmutableCollections$AbstractImmutableList", "<init>", "()V"⟩ : MethodName)) rfl (w258 hw) (w194 hw) (w198 hw) (by decide) (a := a1) (argsL := []) (CtrN.back (Wd := 0) W0 (rm22 l Z a0 hw a1 h0 W0.old ) (w198 hw) (w197 hw) (by decide) (by decide)) (by rw [hml]; rfl) (lenOf pd1 rfl) (S := []) rfl (by exact Nat.le_of_eq rfl) (pc' := 4) (hb hy d37_1) rfl (cells' := 0) (slots' := 0) rfl rfl (by decide) (by decide) (wy := []) (fun _ _ _ q => ⟨q.1, q.2.1⟩) all0 (fun _ _ => trivial) ?_
  intro v1 T1 h1 lo1 W1 K1 q1
  obtain rfl := q1.2.2
  show Gl _ _ _ _ _ _ _ _ []
  refine o_aloadN W1 (pc' := 5) (hb hy d37_4) rfl rfl rfl ?_
  refine o_aloadN W1 (pc' := 6) (hb hy d37_5) rfl rfl rfl ?_
  have c2 := (E_a1.keep K1)
  have c3 := (F_a1_elements.keep K1 nin0)
  refine o_putF W1 (w262 hw) Via.refl c3 c2 (Or.inr ⟨(w263 hw), rfl, hnm⟩) (w252 hw) (ty := (.array (.object "java/lang/Object"))) (v' := (.ref a2)) (by decide) rfl rfl g_a1 (Or.inl (List.mem_of_getElem? (i := 0) rfl)) (fun _ _ => trivial) (pc' := 9) (hb hy d37_6) rfl ?_
  intro T4 h4 lo4 W4 R4
  have F4 := c3.same R4
  refine o_aloadN W4 (pc' := 10) (hb hy d37_9) rfl rfl rfl ?_
  refine o_iloadN W4 (pc' := 11) (hb hy d37_10) rfl rfl ?_
  have c5 := (c2.wr R4)
  have c6 := ((F_a1_allowNulls.keep K1 nin0).other R4 (Or.inr (slot_ne (Or.inr (w265 hw)) (Or.inr (w263 hw)) (by decide) (t := .boolean) (t' := (.array (.object "java/lang/Object"))) (by decide) (by decide))))
  refine o_putF W4 (w264 hw) Via.refl c6 c5 (Or.inr ⟨(w265 hw), rfl, hnm⟩) (w252 hw) (ty := .boolean) (v' := (.int 0)) (by decide) rfl (by decide) g_a1 (Or.inl (List.mem_of_getElem? (i := 0) rfl)) (fun _ _ => trivial) (pc' := 14) (hb hy d37_11) rfl ?_
  intro T7 h7 lo7 W7 R7
  have F7 := c6.same R7
  have c8 := (F4.other R7 (Or.inr (slot_ne (Or.inr (w263 hw)) (Or.inr (w265 hw)) (by decide) (t := (.array (.object "java/lang/Object"))) (t' := .boolean) (by decide) (by decide))))
  have c9 := (c5.wr R7)
  exact o_ret0 W7 hlk hret (hb hy d37_14) (by decide) (by decide) ⟨c8, F7, rfl⟩
theorem rm59 (l : Launch) (Z : State) (a0 : Array Value) (hw : ∀ d ∈ tables_1, d.before a0 Z = true) (a1 : Addr) (k_a1 : ClassId) (a2 a3 a4 : Addr) (h0 : Heap) (O0 : Old Z Z.heap.size h0) (V_a1 : Arv Z h0 a1 k_a1 (.object "java/lang/Object") (3 : Int32) [(.ref a2), (.ref a3), (.ref a4)] .null) (E_a2 : Exa Z h0 a2 "com/example/sessn/sessn/log/LoggedQuery") (E_a3 : Exa Z h0 a3 "com/example/sessn/sessn/log/LoggedQuery") (E_a4 : Exa Z h0 a4 "com/example/sessn/sessn/log/LoggedQuery") :
    CtrN l Z (⟨"java/util/ImmutableCollections", "listFromArray", "([Ljava/lang/Object;)Ljava/util/List;"⟩ : MethodName) jdk_56_method_4_code 3 (some (.object "java/util/List")) [] (⟨5, 2, 5, 63⟩ : Room) #[(.ref a1)] h0 [] (fun v h => ∃ r1 : Addr, ∃ r2 : Addr, ∃ r3 : ClassId, h0.size ≤ r1 ∧ h0.size ≤ r2 ∧ Exa Z h r1 "java/util/ImmutableCollections$ListN" ∧ Fld Z h r1 "java/util/ImmutableCollections$ListN" "elements" "[Ljava/lang/Object;" (.ref r2) ∧ Fld Z h r1 "java/util/ImmutableCollections$ListN" "allowNulls" "Z" (.int 0) ∧ Arv Z h r2 r3 (.object "java/lang/Object") (3 : Int32) [(.ref a2), (.ref a3), (.ref a4)] .null ∧ Ovr Z r3 "java/lang/Object" ∧ Exa Z h r2 "[Ljava/lang/Object;" ∧ v = some (.ref r1)) := by
  refine CtrN.intro (L0 := #[.val (.ref a1), .unset, .unset]) (plainFor_of_name pn5) O0 (own_entry rfl) ?_
  intro p e s m below meth c T0 hy hml hret hlk hnm W0
  refine o_aloadN W0 (pc' := 1) (hb hy d36_0) rfl rfl rfl ?_
  refine o_len W0 V_a1 (pc' := 2) (hb hy d36_1) rfl ?_
  refine o_newRE W0 (w250 hw) (w135 hw) (fun _ _ => trivial) (ad := "[Ljava/lang/Object;") (by decide) (by decide) (cap := 3) (by decide) (by decide) (pc' := 5) (hb hy d36_2) rfl (cells' := 1) (slots' := 3) rfl rfl (by decide) (by decide) (vs := [.null, .null, .null]) rfl ?_
  intro b1 T1 h1 k1 W1 E1 ge1 gz1 gb1 V1 O1 A1
  refine o_astoreN W1 (L' := #[.val (.ref a1), .val (.ref b1), .unset]) (pc' := 6) (hb hy d36_5) rfl rfl rfl ?_
  refine o_iconst W1 (v := 0) (pc' := 7) (hb hy d36_6) rfl rfl ?_
  refine o_istoreN W1 (L' := #[.val (.ref a1), .val (.ref b1), .val (.int 0)]) (pc' := 8) (hb hy d36_7) rfl rfl ?_
  refine o_iloadN W1 (pc' := 9) (hb hy d36_8) rfl rfl ?_
  refine o_aloadN W1 (pc' := 10) (hb hy d36_9) rfl rfl rfl ?_
  have c2 := (V_a1.ext E1)
  refine o_len W1 c2 (pc' := 11) (hb hy d36_10) rfl ?_
  refine o_icmpN W1 (pc' := 14) (hb hy d36_11) (XT.ii_ge_f (by decide)) rfl ?_
  refine o_aloadN W1 (pc' := 15) (hb hy d36_14) rfl rfl rfl ?_
  refine o_iloadN W1 (pc' := 16) (hb hy d36_15) rfl rfl ?_
  refine o_aloadN W1 (pc' := 17) (hb hy d36_16) rfl rfl rfl ?_
  refine o_iloadN W1 (pc' := 18) (hb hy d36_17) rfl rfl ?_
  refine o_aaload W1 c2 rfl (v := (.ref a2)) (i := 0) (by decide) (by decide) (by decide) rfl (pc' := 19) (hb hy d36_18) rfl ?_
  refine o_static W1 (y := (⟨"java/util/Objects", "requireNonNull", "(Ljava/lang/Object;)Ljava/lang/Object;"⟩ : MethodName)) (w251 hw) (w208 hw) (w209 hw) (w210 hw) (by decide) (argsL := [(.ref a2)]) (CtrN.back (Wd := 2) W1 (rm23 l Z a0 hw a2 h1 W1.old ) (w210 hw) (w209 hw) (by decide) (by decide)) (by rw [hml]; rfl) (lenOf pd14 rfl) (S := [(.int 0), (.ref b1)]) rfl (by exact Nat.le_of_eq rfl) (pc' := 22) (hb hy d36_19) rfl (cells' := 1) (slots' := 3) rfl rfl (by decide) (by decide) (wy := []) (fun _ _ _ q => ⟨q.1, q.2.1⟩) all0 (fun _ _ => trivial) ?_
  intro v3 T3 h3 lo3 W3 K3 q3
  obtain rfl := q3.2.2
  show Gl _ _ _ _ _ _ _ _ [(.ref a2), (.int 0), (.ref b1)]
  have c4 := (V1.keep K3 nin0)
  have c5 := ((E_a2.ext E1).keep K3)
  refine o_stR W3 c4 (i := 0) rfl rfl (own_stoV c4 O1 (Ins.of_exa c5 (w136 hw))) (by decide) (by decide) (by decide) (Nat.lt_of_sub_eq_succ rfl) (vs' := [(.ref a2), .null, .null]) rfl gz1 (Or.inr gb1) (fun _ _ => trivial) (pc' := 23) (hb hy d36_22) rfl ?_
  intro T6 h6 lo6 W6 R6 V6
  refine o_iinc W6 (v := 1) (L' := #[.val (.ref a1), .val (.ref b1), .val (.int 1)]) (pc' := 26) (hb hy d36_23) rfl (by decide) rfl rfl ?_
  refine o_goto W6 (pc' := 8) (hb hy d36_26) (by decide) rfl ?_
  refine o_iloadN W6 (pc' := 9) (hb hy d36_8) rfl rfl ?_
  refine o_aloadN W6 (pc' := 10) (hb hy d36_9) rfl rfl rfl ?_
  have c7 := ((c2.keep K3 nin0).other R6 (own_ne V_a1.lt ge1))
  refine o_len W6 c7 (pc' := 11) (hb hy d36_10) rfl ?_
  refine o_icmpN W6 (pc' := 14) (hb hy d36_11) (XT.ii_ge_f (by decide)) rfl ?_
  refine o_aloadN W6 (pc' := 15) (hb hy d36_14) rfl rfl rfl ?_
  refine o_iloadN W6 (pc' := 16) (hb hy d36_15) rfl rfl ?_
  refine o_aloadN W6 (pc' := 17) (hb hy d36_16) rfl rfl rfl ?_
  refine o_iloadN W6 (pc' := 18) (hb hy d36_17) rfl rfl ?_
  refine o_aaload W6 c7 rfl (v := (.ref a3)) (i := 1) (by decide) (by decide) (by decide) rfl (pc' := 19) (hb hy d36_18) rfl ?_
  refine o_static W6 (y := (⟨"java/util/Objects", "requireNonNull", "(Ljava/lang/Object;)Ljava/lang/Object;"⟩ : MethodName)) (w251 hw) (w208 hw) (w209 hw) (w210 hw) (by decide) (argsL := [(.ref a3)]) (CtrN.back (Wd := 2) W6 (rm23 l Z a0 hw a3 h6 W6.old ) (w210 hw) (w209 hw) (by decide) (by decide)) (by rw [hml]; rfl) (lenOf pd14 rfl) (S := [(.int 1), (.ref b1)]) rfl (by exact Nat.le_of_eq rfl) (pc' := 22) (hb hy d36_19) rfl (cells' := 1) (slots' := 3) rfl rfl (by decide) (by decide) (wy := []) (fun _ _ _ q => ⟨q.1, q.2.1⟩) all0 (fun _ _ => trivial) ?_
  intro v8 T8 h8 lo8 W8 K8 q8
  obtain rfl := q8.2.2
  show Gl _ _ _ _ _ _ _ _ [(.ref a3), (.int 1), (.ref b1)]
  have c9 := (V6.keep K8 nin0)
  have c10 := ((((E_a3.ext E1).keep K3).wr R6).keep K8)
  refine o_stR W8 c9 (i := 1) rfl rfl (own_stoV c9 O1 (Ins.of_exa c10 (w136 hw))) (by decide) (by decide) (by decide) (Nat.lt_of_sub_eq_succ rfl) (vs' := [(.ref a2), (.ref a3), .null]) rfl gz1 (Or.inr gb1) (fun _ _ => trivial) (pc' := 23) (hb hy d36_22) rfl ?_
  intro T11 h11 lo11 W11 R11 V11
  refine o_iinc W11 (v := 2) (L' := #[.val (.ref a1), .val (.ref b1), .val (.int 2)]) (pc' := 26) (hb hy d36_23) rfl (by decide) rfl rfl ?_
  refine o_goto W11 (pc' := 8) (hb hy d36_26) (by decide) rfl ?_
  refine o_iloadN W11 (pc' := 9) (hb hy d36_8) rfl rfl ?_
  refine o_aloadN W11 (pc' := 10) (hb hy d36_9) rfl rfl rfl ?_
  have c12 := ((c7.keep K8 nin0).other R11 (own_ne V_a1.lt ge1))
  refine o_len W11 c12 (pc' := 11) (hb hy d36_10) rfl ?_
  refine o_icmpN W11 (pc' := 14) (hb hy d36_11) (XT.ii_ge_f (by decide)) rfl ?_
  refine o_aloadN W11 (pc' := 15) (hb hy d36_14) rfl rfl rfl ?_
  refine o_iloadN W11 (pc' := 16) (hb hy d36_15) rfl rfl ?_
  refine o_aloadN W11 (pc' := 17) (hb hy d36_16) rfl rfl rfl ?_
  refine o_iloadN W11 (pc' := 18) (hb hy d36_17) rfl rfl ?_
  refine o_aaload W11 c12 rfl (v := (.ref a4)) (i := 2) (by decide) (by decide) (by decide) rfl (pc' := 19) (hb hy d36_18) rfl ?_
  refine o_static W11 (y := (⟨"java/util/Objects", "requireNonNull", "(Ljava/lang/Object;)Ljava/lang/Object;"⟩ : MethodName)) (w251 hw) (w208 hw) (w209 hw) (w210 hw) (by decide) (argsL := [(.ref a4)]) (CtrN.back (Wd := 2) W11 (rm23 l Z a0 hw a4 h11 W11.old ) (w210 hw) (w209 hw) (by decide) (by decide)) (by rw [hml]; rfl) (lenOf pd14 rfl) (S := [(.int 2), (.ref b1)]) rfl (by exact Nat.le_of_eq rfl) (pc' := 22) (hb hy d36_19) rfl (cells' := 1) (slots' := 3) rfl rfl (by decide) (by decide) (wy := []) (fun _ _ _ q => ⟨q.1, q.2.1⟩) all0 (fun _ _ => trivial) ?_
  intro v13 T13 h13 lo13 W13 K13 q13
  obtain rfl := q13.2.2
  show Gl _ _ _ _ _ _ _ _ [(.ref a4), (.int 2), (.ref b1)]
  have c14 := (V11.keep K13 nin0)
  have c15 := ((((((E_a4.ext E1).keep K3).wr R6).keep K8).wr R11).keep K13)
  refine o_stR W13 c14 (i := 2) rfl rfl (own_stoV c14 O1 (Ins.of_exa c15 (w136 hw))) (by decide) (by decide) (by decide) (Nat.lt_of_sub_eq_succ rfl) (vs' := [(.ref a2), (.ref a3), (.ref a4)]) rfl gz1 (Or.inr gb1) (fun _ _ => trivial) (pc' := 23) (hb hy d36_22) rfl ?_
  intro T16 h16 lo16 W16 R16 V16
  refine o_iinc W16 (v := 3) (L' := #[.val (.ref a1), .val (.ref b1), .val (.int 3)]) (pc' := 26) (hb hy d36_23) rfl (by decide) rfl rfl ?_
  refine o_goto W16 (pc' := 8) (hb hy d36_26) (by decide) rfl ?_
  refine o_iloadN W16 (pc' := 9) (hb hy d36_8) rfl rfl ?_
  refine o_aloadN W16 (pc' := 10) (hb hy d36_9) rfl rfl rfl ?_
  have c17 := ((c12.keep K13 nin0).other R16 (own_ne V_a1.lt ge1))
  refine o_len W16 c17 (pc' := 11) (hb hy d36_10) rfl ?_
  refine o_icmpY W16 (pc' := 29) (hb hy d36_11) (XT.ii_ge_t (by decide)) (by decide) rfl ?_
  refine o_new W16 (w84 hw) (w252 hw) (w253 hw) (fun _ _ => trivial) (pc' := 32) (hb hy d36_29) rfl (cells' := 2) (slots' := 5) rfl rfl (by decide) (by decide) ?_
  intro b18 T18 h18 W18 E18 ge18 gz18 gb18 A18 D18
  have Fb18_elements : Fld Z h18 b18 "java/util/ImmutableCollections$ListN" "elements" "[Ljava/lang/Object;" .null := D18 (Or.inr (w263 hw)) (ty := (.array (.object "java/lang/Object"))) (by decide)
  have Fb18_allowNulls : Fld Z h18 b18 "java/util/ImmutableCollections$ListN" "allowNulls" "Z" (.int 0) := D18 (Or.inr (w265 hw)) (ty := .boolean) (by decide)
  refine o_dup W18 (pc' := 33) (hb hy d36_32) rfl rfl ?_
  refine o_aloadN W18 (pc' := 34) (hb hy d36_33) rfl rfl rfl ?_
  refine o_iconst W18 (v := 0) (pc' := 35) (hb hy d36_34) rfl rfl ?_
  refine o_specialN W18 (y := (⟨"java/util/ImmutableCollections$ListN", "<init>", "([Ljava/lang/Object;Z)V"⟩ : MethodName)) rfl (w254 hw) (w255 hw) (w257 hw) (by decide) (a := b18) (argsL := [(.ref b1), (.int 0)]) (CtrN.back (Wd := 1) W18 (rm58 l Z a0 hw b18 b1 h18 W18.old A18 Fb18_elements gz18 Fb18_allowNulls) (w257 hw) (w253 hw) (by decide) (by decide)) (by rw [hml]; rfl) (lenOf pd22 rfl) (S := [(.ref b18)]) rfl (by exact Nat.le_of_eq rfl) (pc' := 38) (hb hy d36_35) rfl (cells' := 2) (slots' := 5) rfl rfl (by decide) (by decide) (wy := [b18]) (fun _ _ _ q => ⟨q.1, q.2.1⟩) (allS ⟨gz18, (Or.inr gb18)⟩ all0) (fun _ _ => trivial) ?_
  intro v19 T19 h19 lo19 W19 K19 q19
  obtain ⟨P19_0, P19_1, rfl⟩ := q19.2.2
  show Gl _ _ _ _ _ _ _ _ [(.ref b18)]
  have c20 := (A18.keep K19)
  have c21 := ((V16.ext E18).keep K19 (ninS (own_ne V16.lt ge18) nin0))
  have c22 := ((((((((A1.keep K3).wr R6).keep K8).wr R11).keep K13).wr R16).ext E18).keep K19)
  exact o_retA W19 hlk (v := (.ref b18)) hret rfl rfl (hb hy d36_38) (by decide) (by decide) ⟨b18, b1, k1, gb18, gb1, c20, P19_0, P19_1, c21, O1, c22, rfl⟩
theorem rm60 (l : Launch) (Z : State) (a0 : Array Value) (hw : ∀ d ∈ tables_1, d.before a0 Z = true) (a1 : Addr) (k_a1 : ClassId) (a2 a3 a4 : Addr) (h0 : Heap) (O0 : Old Z Z.heap.size h0) (V_a1 : Arv Z h0 a1 k_a1 (.object "java/lang/Object") (3 : Int32) [(.ref a2), (.ref a3), (.ref a4)] .null) (E_a2 : Exa Z h0 a2 "com/example/sessn/sessn/log/LoggedQuery") (E_a3 : Exa Z h0 a3 "com/example/sessn/sessn/log/LoggedQuery") (E_a4 : Exa Z h0 a4 "com/example/sessn/sessn/log/LoggedQuery") :
    CtrN l Z (⟨"java/util/List", "of", "([Ljava/lang/Object;)Ljava/util/List;"⟩ : MethodName) jdk_40_method_47_code 2 (some (.object "java/util/List")) [] (⟨6, 2, 5, 77⟩ : Room) #[(.ref a1)] h0 [] (fun v h => ∃ r1 : Addr, ∃ r2 : Addr, ∃ r3 : ClassId, h0.size ≤ r1 ∧ h0.size ≤ r2 ∧ Exa Z h r1 "java/util/ImmutableCollections$ListN" ∧ Fld Z h r1 "java/util/ImmutableCollections$ListN" "elements" "[Ljava/lang/Object;" (.ref r2) ∧ Fld Z h r1 "java/util/ImmutableCollections$ListN" "allowNulls" "Z" (.int 0) ∧ Arv Z h r2 r3 (.object "java/lang/Object") (3 : Int32) [(.ref a2), (.ref a3), (.ref a4)] .null ∧ Ovr Z r3 "java/lang/Object" ∧ Exa Z h r2 "[Ljava/lang/Object;" ∧ v = some (.ref r1)) := by
  refine CtrN.intro (L0 := #[.val (.ref a1), .unset]) (plainFor_of_name pn4) O0 (own_entry rfl) ?_
  intro p e s m below meth c T0 hy hml hret hlk hnm W0
  refine o_aloadN W0 (pc' := 1) (hb hy d27_0) rfl rfl rfl ?_
  refine o_len W0 V_a1 (pc' := 2) (hb hy d27_1) rfl ?_
  refine o_tswO W0 (pc' := 59) (hb hy d27_2) (by decide) (by decide) rfl ?_
  refine o_aloadN W0 (pc' := 60) (hb hy d27_59) rfl rfl rfl ?_
  refine o_static W0 (y := (⟨"java/util/ImmutableCollections", "listFromArray", "([Ljava/lang/Object;)Ljava/util/List;"⟩ : MethodName)) (w247 hw) (w248 hw) (w77 hw) (w249 hw) (by decide) (argsL := [(.ref a1)]) (CtrN.back (Wd := 0) W0 (rm59 l Z a0 hw a1 k_a1 a2 a3 a4 h0 W0.old V_a1 E_a2 E_a3 E_a4) (w249 hw) (w77 hw) (by decide) (by decide)) (by rw [hml]; rfl) (lenOf pd16 rfl) (S := []) rfl (by exact Nat.le_of_eq rfl) (pc' := 63) (hb hy d27_60) rfl (cells' := 2) (slots' := 5) rfl rfl (by decide) (by decide) (wy := []) (fun _ _ _ q => ⟨q.1, q.2.1⟩) all0 (fun _ _ => trivial) ?_
  intro v1 T1 h1 lo1 W1 K1 q1
  obtain ⟨r1_1, r2_1, r3_1, P1_0, P1_1, P1_2, P1_3, P1_4, P1_5, P1_6, P1_7, rfl⟩ := q1.2.2
  show Gl _ _ _ _ _ _ _ _ [(.ref r1_1)]
  exact o_retA W1 hlk (v := (.ref r1_1)) hret rfl rfl (hb hy d27_63) (by decide) (by decide) ⟨r1_1, r2_1, r3_1, (Nat.le_trans W0.keep.1 P1_0), (Nat.le_trans W0.keep.1 P1_1), P1_2, P1_3, P1_4, P1_5, P1_6, P1_7, rfl⟩
theorem rm61 (l : Launch) (Z : State) (a0 : Array Value) (hw : ∀ d ∈ tables_1, d.before a0 Z = true) (gMO a1 a2 : Addr) (k_a2 : ClassId) (a3 a4 a5 : Addr) (h0 : Heap) (O0 : Old Z Z.heap.size h0) (E_a1 : Exa Z h0 a1 "java/util/ArrayList") (F_a1_size : Fld Z h0 a1 "java/util/ArrayList" "size" "I" (.int 3)) (F_a1_elementData : Fld Z h0 a1 "java/util/ArrayList" "elementData" "[Ljava/lang/Object;" (.ref a2)) (E_a2 : Exa Z h0 a2 "[Ljava/lang/Object;") (MgMO : MirW Z "[Ljava/lang/Object;" gMO) (V_a2 : Arv Z h0 a2 k_a2 (.object "java/lang/Object") (10 : Int32) [(.ref a3), (.ref a4), (.ref a5), .null, .null, .null, .null, .null, .null, .null] .null) (E_a5 : Exa Z h0 a5 "com/example/sessn/sessn/log/LoggedQuery") (E_a4 : Exa Z h0 a4 "com/example/sessn/sessn/log/LoggedQuery") (E_a3 : Exa Z h0 a3 "com/example/sessn/sessn/log/LoggedQuery") :
    CtrN l Z (⟨"java/util/ImmutableCollections", "listCopy", "(Ljava/util/Collection;)Ljava/util/List;"⟩ : MethodName) jdk_56_method_3_code 2 (some (.object "java/util/List")) [] (⟨7, 3, 8, 90⟩ : Room) #[(.ref a1)] h0 [] (fun v h => ∃ r1 : Addr, ∃ r2 : Addr, ∃ r3 : ClassId, h0.size ≤ r1 ∧ h0.size ≤ r2 ∧ Exa Z h r1 "java/util/ImmutableCollections$ListN" ∧ Fld Z h r1 "java/util/ImmutableCollections$ListN" "elements" "[Ljava/lang/Object;" (.ref r2) ∧ Fld Z h r1 "java/util/ImmutableCollections$ListN" "allowNulls" "Z" (.int 0) ∧ Arv Z h r2 r3 (.object "java/lang/Object") (3 : Int32) [(.ref a3), (.ref a4), (.ref a5)] .null ∧ Ovr Z r3 "java/lang/Object" ∧ Exa Z h r2 "[Ljava/lang/Object;" ∧ v = some (.ref r1)) := by
  refine CtrN.intro (L0 := #[.val (.ref a1), .unset]) (plainFor_of_name pn5) O0 (own_entry rfl) ?_
  intro p e s m below meth c T0 hy hml hret hlk hnm W0
  refine o_aloadN W0 (pc' := 1) (hb hy d14_0) rfl rfl rfl ?_
  refine o_instN W0 (w79 hw) E_a1 (own_NSno (w80 hw) (w187 hw) (NS.step (w80 hw) (NS.step (w81 hw) (NS.step (w82 hw) (own_NSr (w83 hw) (w187 hw) (by decide)) (by decide)) (by decide)) (by decide)) (by decide)) (pc' := 4) (hb hy d14_1) rfl ?_
  intro T1 W1
  refine o_ifN W1 (pc' := 7) (hb hy d14_4) (XT.i0_ne_f (by decide)) rfl ?_
  refine o_aloadN W1 (pc' := 8) (hb hy d14_7) rfl rfl rfl ?_
  refine o_instN W1 (w84 hw) E_a1 (own_NSno (w80 hw) (w252 hw) (NS.step (w80 hw) (NS.step (w81 hw) (NS.step (w82 hw) (own_NSr (w83 hw) (w252 hw) (by decide)) (by decide)) (by decide)) (by decide)) (by decide)) (pc' := 11) (hb hy d14_8) rfl ?_
  intro T2 W2
  refine o_ifY W2 (pc' := 31) (hb hy d14_11) (XT.i0_eq_t (by decide)) (by decide) rfl ?_
  refine o_aloadN W2 (pc' := 32) (hb hy d14_31) rfl rfl rfl ?_
  refine o_iface W2 (y := (⟨"java/util/Collection", "isEmpty", "()Z"⟩ : MethodName)) (z := (⟨"java/util/ArrayList", "isEmpty", "()Z"⟩ : MethodName)) (w85 hw) (w86 hw) (w87 hw) (w88 hw) (w89 hw) (w90 hw) (w91 hw) (w92 hw) (by decide) E_a1 (argsL := []) (CtrN.back (Wd := 0) W2 (rm53 l Z a0 hw a1 h0 W2.old F_a1_size) (w93 hw) (w40 hw) (by decide) (by decide)) (by rw [hml]; rfl) (lenOf pd2 rfl) (S := []) rfl (by exact Nat.le_of_eq rfl) (pc' := 37) (hb hy d14_32) rfl (cells' := 0) (slots' := 0) rfl rfl (by decide) (by decide) (wy := []) (fun _ _ _ q => ⟨q.1, q.2.1⟩) all0 (fun _ _ => trivial) ?_
  intro v3 T3 h3 lo3 W3 K3 q3
  obtain rfl := q3.2.2
  show Gl _ _ _ _ _ _ _ _ [(.int 0)]
  refine o_ifY W3 (pc' := 44) (hb hy d14_37) (XT.i0_eq_t (by decide)) (by decide) rfl ?_
  refine o_aloadN W3 (pc' := 45) (hb hy d14_44) rfl rfl rfl ?_
  have c4 := (F_a1_elementData.keep K3 nin0)
  have c5 := (F_a1_size.keep K3 nin0)
  have c6 := (E_a2.keep K3)
  have c7 := (V_a2.keep K3 nin0)
  have c8 := (E_a5.keep K3)
  have c9 := (E_a4.keep K3)
  have c10 := (E_a3.keep K3)
  have c11 := (E_a1.keep K3)
  refine o_iface W3 (y := (⟨"java/util/Collection", "toArray", "()[Ljava/lang/Object;"⟩ : MethodName)) (z := (⟨"java/util/ArrayList", "toArray", "()[Ljava/lang/Object;"⟩ : MethodName)) (w153 hw) (w154 hw) (w155 hw) (w156 hw) (w157 hw) (w158 hw) (w159 hw) (w92 hw) (by decide) c11 (argsL := []) (CtrN.back (Wd := 0) W3 (rm57 l Z a0 hw gMO a1 a2 k_a2 a3 a4 a5 h3 W3.old c4 c5 c6 MgMO c7 c8 c9 c10) (w160 hw) (w40 hw) (by decide) (by decide)) (by rw [hml]; rfl) (lenOf pd9 rfl) (S := []) rfl (by exact Nat.le_of_eq rfl) (pc' := 50) (hb hy d14_45) rfl (cells' := 1) (slots' := 3) rfl rfl (by decide) (by decide) (wy := []) (fun _ _ _ q => ⟨q.1, q.2.1⟩) all0 (fun _ _ => trivial) ?_
  intro v12 T12 h12 lo12 W12 K12 q12
  obtain ⟨r1_12, r2_12, P12_0, P12_1, P12_2, P12_3, rfl⟩ := q12.2.2
  show Gl _ _ _ _ _ _ _ _ [(.ref r1_12)]
  have c13 := (c10.keep K12)
  have c14 := (c9.keep K12)
  have c15 := (c8.keep K12)
  refine o_static W12 (y := (⟨"java/util/List", "of", "([Ljava/lang/Object;)Ljava/util/List;"⟩ : MethodName)) (w183 hw) (w184 hw) (w73 hw) (w185 hw) (by decide) (argsL := [(.ref r1_12)]) (CtrN.back (Wd := 0) W12 (rm60 l Z a0 hw r1_12 r2_12 a3 a4 a5 h12 W12.old P12_1 c13 c14 c15) (w185 hw) (w73 hw) (by decide) (by decide)) (by rw [hml]; rfl) (lenOf pd16 rfl) (S := []) rfl (by exact Nat.le_of_eq rfl) (pc' := 53) (hb hy d14_50) rfl (cells' := 3) (slots' := 8) rfl rfl (by decide) (by decide) (wy := []) (fun _ _ _ q => ⟨q.1, q.2.1⟩) all0 (fun _ _ => trivial) ?_
  intro v16 T16 h16 lo16 W16 K16 q16
  obtain ⟨r1_16, r2_16, r3_16, P16_0, P16_1, P16_2, P16_3, P16_4, P16_5, P16_6, P16_7, rfl⟩ := q16.2.2
  show Gl _ _ _ _ _ _ _ _ [(.ref r1_16)]
  exact o_retA W16 hlk (v := (.ref r1_16)) hret rfl rfl (hb hy d14_53) (by decide) (by decide) ⟨r1_16, r2_16, r3_16, (Nat.le_trans W12.keep.1 P16_0), (Nat.le_trans W12.keep.1 P16_1), P16_2, P16_3, P16_4, P16_5, P16_6, P16_7, rfl⟩
theorem rm62 (l : Launch) (Z : State) (a0 : Array Value) (hw : ∀ d ∈ tables_1, d.before a0 Z = true) (gMO a1 a2 : Addr) (k_a2 : ClassId) (a3 a4 a5 : Addr) (h0 : Heap) (O0 : Old Z Z.heap.size h0) (E_a1 : Exa Z h0 a1 "java/util/ArrayList") (F_a1_size : Fld Z h0 a1 "java/util/ArrayList" "size" "I" (.int 3)) (F_a1_elementData : Fld Z h0 a1 "java/util/ArrayList" "elementData" "[Ljava/lang/Object;" (.ref a2)) (E_a2 : Exa Z h0 a2 "[Ljava/lang/Object;") (MgMO : MirW Z "[Ljava/lang/Object;" gMO) (V_a2 : Arv Z h0 a2 k_a2 (.object "java/lang/Object") (10 : Int32) [(.ref a3), (.ref a4), (.ref a5), .null, .null, .null, .null, .null, .null, .null] .null) (E_a5 : Exa Z h0 a5 "com/example/sessn/sessn/log/LoggedQuery") (E_a4 : Exa Z h0 a4 "com/example/sessn/sessn/log/LoggedQuery") (E_a3 : Exa Z h0 a3 "com/example/sessn/sessn/log/LoggedQuery") :
    CtrN l Z (⟨"java/util/List", "copyOf", "(Ljava/util/Collection;)Ljava/util/List;"⟩ : MethodName) jdk_40_method_48_code 1 (some (.object "java/util/List")) [] (⟨8, 3, 8, 103⟩ : Room) #[(.ref a1)] h0 [] (fun v h => ∃ r1 : Addr, ∃ r2 : Addr, ∃ r3 : ClassId, h0.size ≤ r1 ∧ h0.size ≤ r2 ∧ Exa Z h r1 "java/util/ImmutableCollections$ListN" ∧ Fld Z h r1 "java/util/ImmutableCollections$ListN" "elements" "[Ljava/lang/Object;" (.ref r2) ∧ Fld Z h r1 "java/util/ImmutableCollections$ListN" "allowNulls" "Z" (.int 0) ∧ Arv Z h r2 r3 (.object "java/lang/Object") (3 : Int32) [(.ref a3), (.ref a4), (.ref a5)] .null ∧ Ovr Z r3 "java/lang/Object" ∧ Exa Z h r2 "[Ljava/lang/Object;" ∧ v = some (.ref r1)) := by
  refine CtrN.intro (L0 := #[.val (.ref a1)]) (plainFor_of_name pn4) O0 (own_entry rfl) ?_
  intro p e s m below meth c T0 hy hml hret hlk hnm W0
  refine o_aloadN W0 (pc' := 1) (hb hy d13_0) rfl rfl rfl ?_
  refine o_static W0 (y := (⟨"java/util/ImmutableCollections", "listCopy", "(Ljava/util/Collection;)Ljava/util/List;"⟩ : MethodName)) (w75 hw) (w76 hw) (w77 hw) (w78 hw) (by decide) (argsL := [(.ref a1)]) (CtrN.back (Wd := 0) W0 (rm61 l Z a0 hw gMO a1 a2 k_a2 a3 a4 a5 h0 W0.old E_a1 F_a1_size F_a1_elementData E_a2 MgMO V_a2 E_a5 E_a4 E_a3) (w78 hw) (w77 hw) (by decide) (by decide)) (by rw [hml]; rfl) (lenOf pd4 rfl) (S := []) rfl (by exact Nat.le_of_eq rfl) (pc' := 4) (hb hy d13_1) rfl (cells' := 3) (slots' := 8) rfl rfl (by decide) (by decide) (wy := []) (fun _ _ _ q => ⟨q.1, q.2.1⟩) all0 (fun _ _ => trivial) ?_
  intro v1 T1 h1 lo1 W1 K1 q1
  obtain ⟨r1_1, r2_1, r3_1, P1_0, P1_1, P1_2, P1_3, P1_4, P1_5, P1_6, P1_7, rfl⟩ := q1.2.2
  show Gl _ _ _ _ _ _ _ _ [(.ref r1_1)]
  exact o_retA W1 hlk (v := (.ref r1_1)) hret rfl rfl (hb hy d13_4) (by decide) (by decide) ⟨r1_1, r2_1, r3_1, (Nat.le_trans W0.keep.1 P1_0), (Nat.le_trans W0.keep.1 P1_1), P1_2, P1_3, P1_4, P1_5, P1_6, P1_7, rfl⟩
theorem rm63 (l : Launch) (Z : State) (a0 : Array Value) (hw : ∀ d ∈ tables_1, d.before a0 Z = true) (gMO a1 a2 a3 a4 : Addr) (k_a4 : ClassId) (a5 a6 a7 : Addr) (h0 : Heap) (O0 : Old Z Z.heap.size h0) (E_a3 : Exa Z h0 a3 "java/util/ArrayList") (F_a3_size : Fld Z h0 a3 "java/util/ArrayList" "size" "I" (.int 3)) (F_a3_elementData : Fld Z h0 a3 "java/util/ArrayList" "elementData" "[Ljava/lang/Object;" (.ref a4)) (E_a4 : Exa Z h0 a4 "[Ljava/lang/Object;") (MgMO : MirW Z "[Ljava/lang/Object;" gMO) (V_a4 : Arv Z h0 a4 k_a4 (.object "java/lang/Object") (10 : Int32) [(.ref a5), (.ref a6), (.ref a7), .null, .null, .null, .null, .null, .null, .null] .null) (E_a7 : Exa Z h0 a7 "com/example/sessn/sessn/log/LoggedQuery") (E_a6 : Exa Z h0 a6 "com/example/sessn/sessn/log/LoggedQuery") (E_a5 : Exa Z h0 a5 "com/example/sessn/sessn/log/LoggedQuery") (E_a1 : Exa Z h0 a1 "com/example/sessn/sessn/log/LoggedSession") (F_a1_id : Fld Z h0 a1 "com/example/sessn/sessn/log/LoggedSession" "id" "Ljava/lang/String;" .null) (g_a1 : Z.heap.size ≤ a1) (F_a1_queries : Fld Z h0 a1 "com/example/sessn/sessn/log/LoggedSession" "queries" "Ljava/util/List;" .null) :
    CtrN l Z (⟨"com/example/sessn/sessn/log/LoggedSession", "<init>", "(Ljava/lang/String;Ljava/util/List;)V"⟩ : MethodName) prog_20_method_1_code 3 none [] (⟨9, 3, 8, 115⟩ : Room) #[(.ref a1), (.ref a2), (.ref a3)] h0 [a1] (fun v h => ∃ r1 : Addr, ∃ r2 : Addr, ∃ r3 : ClassId, h0.size ≤ r1 ∧ h0.size ≤ r2 ∧ Fld Z h a1 "com/example/sessn/sessn/log/LoggedSession" "id" "Ljava/lang/String;" (.ref a2) ∧ Fld Z h a1 "com/example/sessn/sessn/log/LoggedSession" "queries" "Ljava/util/List;" (.ref r1) ∧ Exa Z h r1 "java/util/ImmutableCollections$ListN" ∧ Fld Z h r1 "java/util/ImmutableCollections$ListN" "elements" "[Ljava/lang/Object;" (.ref r2) ∧ Fld Z h r1 "java/util/ImmutableCollections$ListN" "allowNulls" "Z" (.int 0) ∧ Arv Z h r2 r3 (.object "java/lang/Object") (3 : Int32) [(.ref a5), (.ref a6), (.ref a7)] .null ∧ Ovr Z r3 "java/lang/Object" ∧ Exa Z h r2 "[Ljava/lang/Object;" ∧ v = none) := by
  refine CtrN.intro (L0 := #[.val (.ref a1), .val (.ref a2), .val (.ref a3)]) (plainFor_of_name pn13) O0 (own_entry rfl) ?_
  intro p e s m below meth c T0 hy hml hret hlk hnm W0
  refine o_aloadN W0 (pc' := 1) (hb hy d22_0) rfl rfl rfl ?_
  refine o_special W0 (y := (⟨"java/lang/Record", "<init>", "()V"⟩ : MethodName)) rfl (w146 hw) (w66 hw) (w69 hw) (by decide) (a := a1) (argsL := []) (CtrN.back (Wd := 0) W0 (rm4 l Z a0 hw a1 h0 W0.old ) (w69 hw) (w68 hw) (by decide) (by decide)) (by rw [hml]; rfl) (lenOf pd1 rfl) (S := []) rfl (by exact Nat.le_of_eq rfl) (pc' := 4) (hb hy d22_1) rfl (cells' := 0) (slots' := 0) rfl rfl (by decide) (by decide) (wy := []) (fun _ _ _ q => ⟨q.1, q.2.1⟩) all0 (fun _ _ => trivial) ?_
  intro v1 T1 h1 lo1 W1 K1 q1
  obtain rfl := q1.2.2
  show Gl _ _ _ _ _ _ _ _ []
  refine o_aloadN W1 (pc' := 5) (hb hy d22_4) rfl rfl rfl ?_
  have c2 := (E_a3.keep K1)
  have c3 := (F_a3_size.keep K1 nin0)
  refine o_iface W1 (y := (⟨"java/util/List", "isEmpty", "()Z"⟩ : MethodName)) (z := (⟨"java/util/ArrayList", "isEmpty", "()Z"⟩ : MethodName)) (w147 hw) (w148 hw) (w149 hw) (w150 hw) (w89 hw) (w90 hw) (w91 hw) (w151 hw) (by decide) c2 (argsL := []) (CtrN.back (Wd := 0) W1 (rm53 l Z a0 hw a3 h1 W1.old c3) (w93 hw) (w40 hw) (by decide) (by decide)) (by rw [hml]; rfl) (lenOf pd2 rfl) (S := []) rfl (by exact Nat.le_of_eq rfl) (pc' := 10) (hb hy d22_5) rfl (cells' := 0) (slots' := 0) rfl rfl (by decide) (by decide) (wy := []) (fun _ _ _ q => ⟨q.1, q.2.1⟩) all0 (fun _ _ => trivial) ?_
  intro v4 T4 h4 lo4 W4 K4 q4
  obtain rfl := q4.2.2
  show Gl _ _ _ _ _ _ _ _ [(.int 0)]
  refine o_ifY W4 (pc' := 27) (hb hy d22_10) (XT.i0_eq_t (by decide)) (by decide) rfl ?_
  refine o_aloadN W4 (pc' := 28) (hb hy d22_27) rfl rfl rfl ?_
  have c5 := (c3.keep K4 nin0)
  have c6 := ((F_a3_elementData.keep K1 nin0).keep K4 nin0)
  have c7 := ((E_a4.keep K1).keep K4)
  have c8 := ((V_a4.keep K1 nin0).keep K4 nin0)
  have c9 := ((E_a7.keep K1).keep K4)
  have c10 := ((E_a6.keep K1).keep K4)
  have c11 := ((E_a5.keep K1).keep K4)
  have c12 := (c2.keep K4)
  refine o_static W4 (y := (⟨"java/util/List", "copyOf", "(Ljava/util/Collection;)Ljava/util/List;"⟩ : MethodName)) (w152 hw) (w72 hw) (w73 hw) (w74 hw) (by decide) (argsL := [(.ref a3)]) (CtrN.back (Wd := 0) W4 (rm62 l Z a0 hw gMO a3 a4 k_a4 a5 a6 a7 h4 W4.old c12 c5 c6 c7 MgMO c8 c9 c10 c11) (w74 hw) (w73 hw) (by decide) (by decide)) (by rw [hml]; rfl) (lenOf pd4 rfl) (S := []) rfl (by exact Nat.le_of_eq rfl) (pc' := 31) (hb hy d22_28) rfl (cells' := 3) (slots' := 8) rfl rfl (by decide) (by decide) (wy := []) (fun _ _ _ q => ⟨q.1, q.2.1⟩) all0 (fun _ _ => trivial) ?_
  intro v13 T13 h13 lo13 W13 K13 q13
  obtain ⟨r1_13, r2_13, r3_13, P13_0, P13_1, P13_2, P13_3, P13_4, P13_5, P13_6, P13_7, rfl⟩ := q13.2.2
  show Gl _ _ _ _ _ _ _ _ [(.ref r1_13)]
  refine o_astoreN W13 (L' := #[.val (.ref a1), .val (.ref a2), .val (.ref r1_13)]) (pc' := 32) (hb hy d22_31) rfl rfl rfl ?_
  refine o_aloadN W13 (pc' := 33) (hb hy d22_32) rfl rfl rfl ?_
  refine o_aloadN W13 (pc' := 34) (hb hy d22_33) rfl rfl rfl ?_
  have c14 := (((E_a1.keep K1).keep K4).keep K13)
  have c15 := (((F_a1_id.keep K1 nin0).keep K4 nin0).keep K13 nin0)
  refine o_putF W13 (w216 hw) Via.refl c15 c14 (Or.inr ⟨(w217 hw), rfl, hnm⟩) (w138 hw) (ty := (.object "java/lang/String")) (v' := (.ref a2)) (by decide) rfl rfl g_a1 (Or.inl (List.mem_of_getElem? (i := 0) rfl)) (fun _ _ => trivial) (pc' := 37) (hb hy d22_34) rfl ?_
  intro T16 h16 lo16 W16 R16
  have F16 := c15.same R16
  refine o_aloadN W16 (pc' := 38) (hb hy d22_37) rfl rfl rfl ?_
  refine o_aloadN W16 (pc' := 39) (hb hy d22_38) rfl rfl rfl ?_
  have c17 := (c14.wr R16)
  have c18 := ((((F_a1_queries.keep K1 nin0).keep K4 nin0).keep K13 nin0).other R16 (Or.inr (slot_ne (Or.inr (w219 hw)) (Or.inr (w217 hw)) (by decide) (t := (.object "java/util/List")) (t' := (.object "java/lang/String")) (by decide) (by decide))))
  refine o_putF W16 (w218 hw) Via.refl c18 c17 (Or.inr ⟨(w219 hw), rfl, hnm⟩) (w138 hw) (ty := (.object "java/util/List")) (v' := (.ref r1_13)) (by decide) rfl rfl g_a1 (Or.inl (List.mem_of_getElem? (i := 0) rfl)) (fun _ _ => trivial) (pc' := 42) (hb hy d22_39) rfl ?_
  intro T19 h19 lo19 W19 R19
  have F19 := c18.same R19
  have c20 := (F16.other R19 (Or.inr (slot_ne (Or.inr (w217 hw)) (Or.inr (w219 hw)) (by decide) (t := (.object "java/lang/String")) (t' := (.object "java/util/List")) (by decide) (by decide))))
  have c21 := (c17.wr R19)
  have c22 := ((P13_2.wr R16).wr R19)
  have c23 := ((E_a1.keep K1).keep K4)
  have c24 := ((P13_3.other R16 (Or.inl (own_ne' c23.lt P13_0))).other R19 (Or.inl (own_ne' c23.lt P13_0)))
  have c25 := ((P13_4.other R16 (Or.inl (own_ne' c23.lt P13_0))).other R19 (Or.inl (own_ne' c23.lt P13_0)))
  have c26 := ((P13_5.other R16 (own_ne' c23.lt P13_1)).other R19 (own_ne' c23.lt P13_1))
  have c27 := ((P13_7.wr R16).wr R19)
  exact o_ret0 W19 hlk hret (hb hy d22_42) (by decide) (by decide) ⟨r1_13, r2_13, r3_13, (Nat.le_trans W4.keep.1 P13_0), (Nat.le_trans W4.keep.1 P13_1), c20, F19, c22, c24, c25, c26, P13_6, c27, rfl⟩
theorem rm64 (l : Launch) (Z : State) (a0 : Array Value) (hw : ∀ d ∈ tables_1, d.before a0 Z = true) (a1 a2 a3 : Addr) (k_a3 : ClassId) (a4 a5 : Addr) (h0 : Heap) (O0 : Old Z Z.heap.size h0) (V_a3 : Arv Z h0 a3 k_a3 (.object "java/lang/Object") (10 : Int32) [(.ref a2), (.ref a4), (.ref a5), .null, .null, .null, .null, .null, .null, .null] .null) (g_a3 : Z.heap.size ≤ a3) (O_a3 : Ovr Z k_a3 "java/lang/Object") (E_a2 : Exa Z h0 a2 "com/example/sessn/sessn/log/LoggedQuery") (E_a1 : Exa Z h0 a1 "java/util/ArrayList") (F_a1_size : Fld Z h0 a1 "java/util/ArrayList" "size" "I" (.int 3)) (E_a3 : Exa Z h0 a3 "[Ljava/lang/Object;") (g_a1 : Z.heap.size ≤ a1) (F_a1_modCount : Fld Z h0 a1 "java/util/AbstractList" "modCount" "I" (.int 4)) (F_a1_elementData : Fld Z h0 a1 "java/util/ArrayList" "elementData" "[Ljava/lang/Object;" (.ref a3)) :
    CtrN l Z (⟨"java/util/ArrayList", "add", "(Ljava/lang/Object;[Ljava/lang/Object;I)V"⟩ : MethodName) jdk_38_method_24_code 4 none [] (⟨0, 0, 0, 0⟩ : Room) #[(.ref a1), (.ref a2), (.ref a3), (.int 3)] h0 [a3, a1] (fun v h => Arv Z h a3 k_a3 (.object "java/lang/Object") (10 : Int32) [(.ref a2), (.ref a4), (.ref a5), (.ref a2), .null, .null, .null, .null, .null, .null] .null ∧ Fld Z h a1 "java/util/ArrayList" "size" "I" (.int 4) ∧ Fld Z h a1 "java/util/AbstractList" "modCount" "I" (.int 4) ∧ Fld Z h a1 "java/util/ArrayList" "elementData" "[Ljava/lang/Object;" (.ref a3) ∧ v = none) := by
  refine CtrN.intro (L0 := #[.val (.ref a1), .val (.ref a2), .val (.ref a3), .val (.int 3)]) (plainFor_of_name pn2) O0 (own_entry rfl) ?_
  intro p e s m below meth c T0 hy hml hret hlk hnm W0
  refine o_iloadN W0 (pc' := 1) (hb hy d18_0) rfl rfl ?_
  refine o_aloadN W0 (pc' := 2) (hb hy d18_1) rfl rfl rfl ?_
  refine o_len W0 V_a3 (pc' := 3) (hb hy d18_2) rfl ?_
  refine o_icmpY W0 (pc' := 11) (hb hy d18_3) (XT.ii_ne_t (by decide)) (by decide) rfl ?_
  refine o_aloadN W0 (pc' := 12) (hb hy d18_11) rfl rfl rfl ?_
  refine o_iloadN W0 (pc' := 13) (hb hy d18_12) rfl rfl ?_
  refine o_aloadN W0 (pc' := 14) (hb hy d18_13) rfl rfl rfl ?_
  refine o_stR W0 V_a3 (i := 3) rfl rfl (own_stoV V_a3 O_a3 (Ins.of_exa E_a2 (w136 hw))) (by decide) (by decide) (by decide) (Nat.lt_of_sub_eq_succ rfl) (vs' := [(.ref a2), (.ref a4), (.ref a5), (.ref a2), .null, .null, .null, .null, .null, .null]) rfl g_a3 (Or.inl (List.mem_of_getElem? (i := 0) rfl)) (fun _ _ => trivial) (pc' := 15) (hb hy d18_14) rfl ?_
  intro T1 h1 lo1 W1 R1 V1
  refine o_aloadN W1 (pc' := 16) (hb hy d18_15) rfl rfl rfl ?_
  refine o_iloadN W1 (pc' := 17) (hb hy d18_16) rfl rfl ?_
  refine o_iconst W1 (v := 1) (pc' := 18) (hb hy d18_17) rfl rfl ?_
  refine o_iadd W1 (v := 4) (pc' := 19) (hb hy d18_18) (by decide) rfl ?_
  have c2 := (E_a1.wr R1)
  have c3 := (E_a3.wr R1)
  have c4 := (F_a1_size.other R1 (Or.inl (Exa.ne E_a1 E_a3 (by decide))))
  refine o_putF W1 (w94 hw) Via.refl c4 c2 (Or.inl (w95 hw)) (w39 hw) (ty := .int) (v' := (.int 4)) (by decide) rfl rfl g_a1 (Or.inl (List.mem_of_getElem? (i := 1) rfl)) (fun _ _ => trivial) (pc' := 22) (hb hy d18_19) rfl ?_
  intro T5 h5 lo5 W5 R5
  have F5 := c4.same R5
  have c6 := (c2.wr R5)
  have c7 := (c3.wr R5)
  have c8 := ((F_a1_modCount.other R1 (Or.inl (Exa.ne E_a1 E_a3 (by decide)))).other R5 (Or.inr (slot_ne (Or.inl (w58 hw)) (Or.inl (w95 hw)) (by decide) (t := .int) (t' := .int) (by decide) (by decide))))
  have c9 := ((F_a1_elementData.other R1 (Or.inl (Exa.ne E_a1 E_a3 (by decide)))).other R5 (Or.inr (slot_ne (Or.inl (w61 hw)) (Or.inl (w95 hw)) (by decide) (t := (.array (.object "java/lang/Object"))) (t' := .int) (by decide) (by decide))))
  have c10 := (V1.other R5 (Exa.ne c3 c2 (by decide)))
  exact o_ret0 W5 hlk hret (hb hy d18_22) (by decide) (by decide) ⟨c10, F5, c8, c9, rfl⟩
theorem rm65 (l : Launch) (Z : State) (a0 : Array Value) (hw : ∀ d ∈ tables_1, d.before a0 Z = true) (a1 a2 a3 : Addr) (k_a3 : ClassId) (a4 a5 : Addr) (h0 : Heap) (O0 : Old Z Z.heap.size h0) (F_a1_modCount : Fld Z h0 a1 "java/util/AbstractList" "modCount" "I" (.int 3)) (E_a1 : Exa Z h0 a1 "java/util/ArrayList") (g_a1 : Z.heap.size ≤ a1) (F_a1_elementData : Fld Z h0 a1 "java/util/ArrayList" "elementData" "[Ljava/lang/Object;" (.ref a3)) (F_a1_size : Fld Z h0 a1 "java/util/ArrayList" "size" "I" (.int 3)) (V_a3 : Arv Z h0 a3 k_a3 (.object "java/lang/Object") (10 : Int32) [(.ref a2), (.ref a4), (.ref a5), .null, .null, .null, .null, .null, .null, .null] .null) (E_a3 : Exa Z h0 a3 "[Ljava/lang/Object;") (O_a3 : Ovr Z k_a3 "java/lang/Object") (E_a2 : Exa Z h0 a2 "com/example/sessn/sessn/log/LoggedQuery") (g_a3 : Z.heap.size ≤ a3) :
    CtrN l Z (⟨"java/util/ArrayList", "add", "(Ljava/lang/Object;)Z"⟩ : MethodName) jdk_38_method_25_code 2 (some .boolean) [] (⟨1, 0, 0, 15⟩ : Room) #[(.ref a1), (.ref a2)] h0 [a1, a3] (fun v h => Fld Z h a1 "java/util/AbstractList" "modCount" "I" (.int 4) ∧ Fld Z h a1 "java/util/ArrayList" "elementData" "[Ljava/lang/Object;" (.ref a3) ∧ Fld Z h a1 "java/util/ArrayList" "size" "I" (.int 4) ∧ Arv Z h a3 k_a3 (.object "java/lang/Object") (10 : Int32) [(.ref a2), (.ref a4), (.ref a5), (.ref a2), .null, .null, .null, .null, .null, .null] .null ∧ v = some (.int 1)) := by
  refine CtrN.intro (L0 := #[.val (.ref a1), .val (.ref a2)]) (plainFor_of_name pn2) O0 (own_entry rfl) ?_
  intro p e s m below meth c T0 hy hml hret hlk hnm W0
  refine o_aloadN W0 (pc' := 1) (hb hy d17_0) rfl rfl rfl ?_
  refine o_dup W0 (pc' := 2) (hb hy d17_1) rfl rfl ?_
  refine o_getF W0 (w113 hw) (Via.of (w114 hw)) F_a1_modCount (pc' := 5) (hb hy d17_2) rfl ?_
  intro T1 W1
  refine o_iconst W1 (v := 1) (pc' := 6) (hb hy d17_5) rfl rfl ?_
  refine o_iadd W1 (v := 4) (pc' := 7) (hb hy d17_6) (by decide) rfl ?_
  refine o_putF W1 (w113 hw) (Via.of (w114 hw)) F_a1_modCount E_a1 (Or.inl (w58 hw)) (w39 hw) (ty := .int) (v' := (.int 4)) (by decide) rfl rfl g_a1 (Or.inl (List.mem_of_getElem? (i := 0) rfl)) (fun _ _ => trivial) (pc' := 10) (hb hy d17_7) rfl ?_
  intro T2 h2 lo2 W2 R2
  have F2 := F_a1_modCount.same R2
  refine o_aloadN W2 (pc' := 11) (hb hy d17_10) rfl rfl rfl ?_
  refine o_aloadN W2 (pc' := 12) (hb hy d17_11) rfl rfl rfl ?_
  refine o_aloadN W2 (pc' := 13) (hb hy d17_12) rfl rfl rfl ?_
  have c3 := (F_a1_elementData.other R2 (Or.inr (slot_ne (Or.inl (w61 hw)) (Or.inl (w58 hw)) (by decide) (t := (.array (.object "java/lang/Object"))) (t' := .int) (by decide) (by decide))))
  refine o_getF W2 (w60 hw) Via.refl c3 (pc' := 16) (hb hy d17_13) rfl ?_
  intro T4 W4
  refine o_aloadN W4 (pc' := 17) (hb hy d17_16) rfl rfl rfl ?_
  have c5 := (F_a1_size.other R2 (Or.inr (slot_ne (Or.inl (w95 hw)) (Or.inl (w58 hw)) (by decide) (t := .int) (t' := .int) (by decide) (by decide))))
  refine o_getF W4 (w94 hw) Via.refl c5 (pc' := 20) (hb hy d17_17) rfl ?_
  intro T6 W6
  have c7 := (E_a3.wr R2)
  have c8 := (E_a1.wr R2)
  have c9 := (V_a3.other R2 (Exa.ne E_a3 E_a1 (by decide)))
  have c10 := (E_a2.wr R2)
  refine o_private W6 (y := (⟨"java/util/ArrayList", "add", "(Ljava/lang/Object;[Ljava/lang/Object;I)V"⟩ : MethodName)) (w115 hw) (w116 hw) (w118 hw) (w117 hw) (w119 hw) (by decide) c8 (argsL := [(.ref a2), (.ref a3), (.int 3)]) (CtrN.back (Wd := 0) W6 (rm64 l Z a0 hw a1 a2 a3 k_a3 a4 a5 h2 W6.old c9 g_a3 O_a3 c10 c8 c5 c7 g_a1 F2 c3) (w119 hw) (w40 hw) (by decide) (by decide)) (by rw [hml]; rfl) (lenOf pd10 rfl) (S := []) rfl (by exact Nat.le_of_eq rfl) (pc' := 23) (hb hy d17_20) rfl (cells' := 0) (slots' := 0) rfl rfl (by decide) (by decide) (wy := [a3, a1]) (fun _ _ _ q => ⟨q.1, q.2.1⟩) (allS ⟨g_a3, (Or.inl (List.mem_of_getElem? (i := 1) rfl))⟩ (allS ⟨g_a1, (Or.inl (List.mem_of_getElem? (i := 0) rfl))⟩ all0)) (fun _ _ => trivial) ?_
  intro v11 T11 h11 lo11 W11 K11 q11
  obtain ⟨P11_0, P11_1, P11_2, P11_3, rfl⟩ := q11.2.2
  show Gl _ _ _ _ _ _ _ _ []
  refine o_iconst W11 (v := 1) (pc' := 24) (hb hy d17_23) rfl rfl ?_
  have c12 := (c8.keep K11)
  have c13 := (c7.keep K11)
  exact o_retN W11 hlk (t := .boolean) hret (by simp) (z' := (1 : Int32)) (by decide) (hb hy d17_24) (by decide) (by decide) ⟨P11_2, P11_3, P11_1, P11_0, rfl⟩
theorem rm66 (l : Launch) (Z : State) (a0 : Array Value) (hw : ∀ d ∈ tables_1, d.before a0 Z = true) (a1 a2 : Addr) (k_a2 : ClassId) (a3 a4 a5 : Addr) (h0 : Heap) (O0 : Old Z Z.heap.size h0) (F_a1_elements : Fld Z h0 a1 "java/util/ImmutableCollections$ListN" "elements" "[Ljava/lang/Object;" (.ref a2)) (V_a2 : Arv Z h0 a2 k_a2 (.object "java/lang/Object") (3 : Int32) [(.ref a3), (.ref a4), (.ref a5)] .null) :
    CtrN l Z (⟨"java/util/ImmutableCollections$ListN", "size", "()I"⟩ : MethodName) jdk_45_method_3_code 1 (some .int) [] (⟨0, 0, 0, 0⟩ : Room) #[(.ref a1)] h0 [] (fun v h => v = some (.int 3)) := by
  refine CtrN.intro (L0 := #[.val (.ref a1)]) (plainFor_of_name pn14) O0 (own_entry rfl) ?_
  intro p e s m below meth c T0 hy hml hret hlk hnm W0
  refine o_aloadN W0 (pc' := 1) (hb hy d38_0) rfl rfl rfl ?_
  refine o_getF W0 (w262 hw) Via.refl F_a1_elements (pc' := 4) (hb hy d38_1) rfl ?_
  intro T1 W1
  refine o_len W1 V_a2 (pc' := 5) (hb hy d38_4) rfl ?_
  exact o_retI W1 hlk hret (hb hy d38_5) (by decide) (by decide) rfl
theorem rm67 (l : Launch) (Z : State) (a0 : Array Value) (hw : ∀ d ∈ tables_1, d.before a0 Z = true) (a1 a2 : Addr) (k_a2 : ClassId) (a3 a4 a5 : Addr) (h0 : Heap) (O0 : Old Z Z.heap.size h0) (F_a1_elements : Fld Z h0 a1 "java/util/ImmutableCollections$ListN" "elements" "[Ljava/lang/Object;" (.ref a2)) (V_a2 : Arv Z h0 a2 k_a2 (.object "java/lang/Object") (3 : Int32) [(.ref a3), (.ref a4), (.ref a5)] .null) :
    CtrN l Z (⟨"java/util/ImmutableCollections$ListN", "get", "(I)Ljava/lang/Object;"⟩ : MethodName) jdk_45_method_4_code 2 (some (.object "java/lang/Object")) [] (⟨0, 0, 0, 0⟩ : Room) #[(.ref a1), (.int 2)] h0 [] (fun v h => v = some (.ref a5)) := by
  refine CtrN.intro (L0 := #[.val (.ref a1), .val (.int 2)]) (plainFor_of_name pn14) O0 (own_entry rfl) ?_
  intro p e s m below meth c T0 hy hml hret hlk hnm W0
  refine o_aloadN W0 (pc' := 1) (hb hy d39_0) rfl rfl rfl ?_
  refine o_getF W0 (w262 hw) Via.refl F_a1_elements (pc' := 4) (hb hy d39_1) rfl ?_
  intro T1 W1
  refine o_iloadN W1 (pc' := 5) (hb hy d39_4) rfl rfl ?_
  refine o_aaload W1 V_a2 rfl (v := (.ref a5)) (i := 2) (by decide) (by decide) (by decide) rfl (pc' := 6) (hb hy d39_5) rfl ?_
  exact o_retA W1 hlk (v := (.ref a5)) hret rfl rfl (hb hy d39_6) (by decide) (by decide) rfl
theorem rm68 (l : Launch) (Z : State) (a0 : Array Value) (hw : ∀ d ∈ tables_1, d.before a0 Z = true) (a1 a2 a3 : Addr) (k_a3 : ClassId) (a4 a5 a6 : Addr) (h0 : Heap) (O0 : Old Z Z.heap.size h0) (F_a1_queries : Fld Z h0 a1 "com/example/sessn/sessn/log/LoggedSession" "queries" "Ljava/util/List;" (.ref a2)) (E_a2 : Exa Z h0 a2 "java/util/ImmutableCollections$ListN") (F_a2_elements : Fld Z h0 a2 "java/util/ImmutableCollections$ListN" "elements" "[Ljava/lang/Object;" (.ref a3)) (V_a3 : Arv Z h0 a3 k_a3 (.object "java/lang/Object") (3 : Int32) [(.ref a4), (.ref a5), (.ref a6)] .null) (E_a6 : Exa Z h0 a6 "com/example/sessn/sessn/log/LoggedQuery") :
    CtrN l Z (⟨"com/example/sessn/sessn/log/LoggedSession", "current", "()Lcom/example/sessn/sessn/log/LoggedQuery;"⟩ : MethodName) prog_20_method_3_code 1 (some (.object "com/example/sessn/sessn/log/LoggedQuery")) [] (⟨1, 0, 0, 13⟩ : Room) #[(.ref a1)] h0 [] (fun v h => v = some (.ref a6)) := by
  refine CtrN.intro (L0 := #[.val (.ref a1)]) (plainFor_of_name pn13) O0 (own_entry rfl) ?_
  intro p e s m below meth c T0 hy hml hret hlk hnm W0
  refine o_aloadN W0 (pc' := 1) (hb hy d32_0) rfl rfl rfl ?_
  refine o_getF W0 (w218 hw) Via.refl F_a1_queries (pc' := 4) (hb hy d32_1) rfl ?_
  intro T1 W1
  refine o_aloadN W1 (pc' := 5) (hb hy d32_4) rfl rfl rfl ?_
  refine o_getF W1 (w218 hw) Via.refl F_a1_queries (pc' := 8) (hb hy d32_5) rfl ?_
  intro T2 W2
  refine o_iface W2 (y := (⟨"java/util/List", "size", "()I"⟩ : MethodName)) (z := (⟨"java/util/ImmutableCollections$ListN", "size", "()I"⟩ : MethodName)) (w225 hw) (w226 hw) (w227 hw) (w266 hw) (w267 hw) (w268 hw) (w269 hw) (w270 hw) (by decide) E_a2 (argsL := []) (CtrN.back (Wd := 1) W2 (rm66 l Z a0 hw a2 a3 k_a3 a4 a5 a6 h0 W2.old F_a2_elements V_a3) (w271 hw) (w253 hw) (by decide) (by decide)) (by rw [hml]; rfl) (lenOf pd18 rfl) (S := [(.ref a2)]) rfl (by exact Nat.le_of_eq rfl) (pc' := 13) (hb hy d32_8) rfl (cells' := 0) (slots' := 0) rfl rfl (by decide) (by decide) (wy := []) (fun _ _ _ q => ⟨q.1, q.2.1⟩) all0 (fun _ _ => trivial) ?_
  intro v3 T3 h3 lo3 W3 K3 q3
  obtain rfl := q3.2.2
  show Gl _ _ _ _ _ _ _ _ [(.int 3), (.ref a2)]
  refine o_iconst W3 (v := 1) (pc' := 14) (hb hy d32_13) rfl rfl ?_
  refine o_isub W3 (v := 2) (pc' := 15) (hb hy d32_14) (by decide) rfl ?_
  have c4 := (F_a2_elements.keep K3 nin0)
  have c5 := (V_a3.keep K3 nin0)
  have c6 := (E_a2.keep K3)
  refine o_iface W3 (y := (⟨"java/util/List", "get", "(I)Ljava/lang/Object;"⟩ : MethodName)) (z := (⟨"java/util/ImmutableCollections$ListN", "get", "(I)Ljava/lang/Object;"⟩ : MethodName)) (w234 hw) (w235 hw) (w236 hw) (w272 hw) (w273 hw) (w274 hw) (w275 hw) (w270 hw) (by decide) c6 (argsL := [(.int 2)]) (CtrN.back (Wd := 0) W3 (rm67 l Z a0 hw a2 a3 k_a3 a4 a5 a6 h3 W3.old c4 c5) (w276 hw) (w253 hw) (by decide) (by decide)) (by rw [hml]; rfl) (lenOf pd19 rfl) (S := []) rfl (by exact Nat.le_of_eq rfl) (pc' := 20) (hb hy d32_15) rfl (cells' := 0) (slots' := 0) rfl rfl (by decide) (by decide) (wy := []) (fun _ _ _ q => ⟨q.1, q.2.1⟩) all0 (fun _ _ => trivial) ?_
  intro v7 T7 h7 lo7 W7 K7 q7
  obtain rfl := q7.2.2
  show Gl _ _ _ _ _ _ _ _ [(.ref a6)]
  have c8 := ((E_a6.keep K3).keep K7)
  refine o_cast W7 (w242 hw) (Ins.self c8) (pc' := 23) (hb hy d32_20) rfl ?_
  intro T9 W9
  exact o_retA W9 hlk (v := (.ref a6)) hret rfl rfl (hb hy d32_23) (by decide) (by decide) rfl
theorem rm_law (l : Launch) (Z : State) (a0 : Array Value) (hw : ∀ d ∈ tables_1, d.before a0 Z = true) (gCS : Int32) (gMO gO2 gO3 gO5 : Addr) (k_gO2 : ClassId) (p0 p1 p2 p3 : Int32) (h0 : Heap) (O0 : Old Z Z.heap.size h0) (SgCS : Sta Z Z.heap "java/lang/String" "COMPACT_STRINGS" "Z" (.int gCS)) (NgCS : ¬ (gCS = (0 : Int32))) (SgO2_DEFAULTCAPACITY_EMPTY_ELEMENTDATA : Sta Z Z.heap "java/util/ArrayList" "DEFAULTCAPACITY_EMPTY_ELEMENTDATA" "[Ljava/lang/Object;" (.ref gO2)) (SgO3_EMPTY_LIST : Sta Z Z.heap "java/util/ImmutableCollections" "EMPTY_LIST" "Ljava/util/ImmutableCollections$ListN;" (.ref gO3)) (VgO2 : Arv Z Z.heap gO2 k_gO2 (.object "java/lang/Object") (0 : Int32) [] .null) (MgMO : MirW Z "[Ljava/lang/Object;" gMO) (SgO5_EMPTY : Sta Z Z.heap "java/util/ImmutableCollections" "EMPTY" "Ljava/lang/Object;" (.ref gO5)) (XgO5 : Exa Z Z.heap gO5 "java/lang/Object") :
    CtrW l Z consts_1 x code maxLocals ret tables_1 room_1 #[(.int p0), (.int p1), (.int p2), (.int p3)] h0 [] (fun v _ => v = some (.int 1)) := by
  refine CtrW.intro (L0 := #[.val (.int p0), .val (.int p1), .val (.int p2), .val (.int p3), .unset, .unset, .unset, .unset, .unset, .unset, .unset, .unset]) (plainFor_of_name pn7) O0 (own_entry rfl) ?_
  intro p e s m below meth c T0 V0 hy hml hret hlk hnm W0
  refine o_iloadN W0 (pc' := 1) (hb hy at_0) rfl rfl ?_
  refine o_ldcI W0 (w0 hw) (pc' := 3) (hb hy at_1) rfl ?_
  refine o_iand W0 (v := (p0 &&& (2147483647 : Int32))) (pc' := 4) (hb hy at_3) rfl rfl ?_
  refine o_iconst W0 (v := 3) (pc' := 5) (hb hy at_4) rfl rfl ?_
  rcases own_rem3 p0 with ek1 | ek1 | ek1
  · refine o_irem W0 (v := 0) (pc' := 6) (hb hy at_5) (by decide) ek1 rfl ?_
    refine o_iconst W0 (v := 1) (pc' := 7) (hb hy at_6) rfl rfl ?_
    refine o_iadd W0 (v := 1) (pc' := 8) (hb hy at_7) (by decide) rfl ?_
    refine o_istore W0 (L' := #[.val (.int p0), .val (.int p1), .val (.int p2), .val (.int p3), .val (.int 1), .unset, .unset, .unset, .unset, .unset, .unset, .unset]) (pc' := 10) (hb hy at_8) rfl rfl ?_
    refine o_iloadN W0 (pc' := 11) (hb hy at_10) rfl rfl ?_
    refine o_static W0 (y := (⟨"com/example/sessn/sessn/log/LoggedSessionCurrentPinLaw", "query", "(I)Lcom/example/sessn/sessn/log/LoggedQuery;"⟩ : MethodName)) (w1 hw) (w2 hw) (w3 hw) (w4 hw) (by decide) (argsL := [(.int p1)]) (CtrN.back (Wd := 0) W0 (rm10 l Z a0 hw gCS gO2 gO3 p1 h0 W0.old SgCS NgCS SgO2_DEFAULTCAPACITY_EMPTY_ELEMENTDATA SgO3_EMPTY_LIST) (w4 hw) (w3 hw) (by decide) (by decide)) (by rw [hml]; rfl) (lenOf pd6 rfl) (S := []) rfl (by exact Nat.le_of_eq rfl) (pc' := 14) (hb hy at_11) rfl (cells' := 6) (slots' := 18) rfl rfl (by decide) (by decide) (wy := []) (fun _ _ _ q => ⟨q.1, q.2.1⟩) all0 (fun _ K => IW.keep K sf0 W0.inv) ?_
    intro v2 T2 h2 lo2 W2 K2 q2
    obtain ⟨r1_2, r2_2, r3_2, r4_2, P2_0, P2_1, P2_2, P2_3, P2_4, P2_5, P2_6, P2_7, P2_8, P2_9, P2_10, P2_11, rfl⟩ := q2.2.2
    show Gl _ _ _ _ _ _ _ _ [(.ref r1_2)]
    refine o_astore W2 (L' := #[.val (.int p0), .val (.int p1), .val (.int p2), .val (.int p3), .val (.int 1), .val (.ref r1_2), .unset, .unset, .unset, .unset, .unset, .unset]) (pc' := 16) (hb hy at_14) rfl rfl rfl ?_
    refine o_iloadN W2 (pc' := 17) (hb hy at_16) rfl rfl ?_
    refine o_static W2 (y := (⟨"com/example/sessn/sessn/log/LoggedSessionCurrentPinLaw", "query", "(I)Lcom/example/sessn/sessn/log/LoggedQuery;"⟩ : MethodName)) (w1 hw) (w2 hw) (w3 hw) (w4 hw) (by decide) (argsL := [(.int p2)]) (CtrN.back (Wd := 0) W2 (rm10 l Z a0 hw gCS gO2 gO3 p2 h2 W2.old SgCS NgCS SgO2_DEFAULTCAPACITY_EMPTY_ELEMENTDATA SgO3_EMPTY_LIST) (w4 hw) (w3 hw) (by decide) (by decide)) (by rw [hml]; rfl) (lenOf pd6 rfl) (S := []) rfl (by exact Nat.le_of_eq rfl) (pc' := 20) (hb hy at_17) rfl (cells' := 12) (slots' := 36) rfl rfl (by decide) (by decide) (wy := []) (fun _ _ _ q => ⟨q.1, q.2.1⟩) all0 (fun _ K => IW.keep K sf0 W2.inv) ?_
    intro v3 T3 h3 lo3 W3 K3 q3
    obtain ⟨r1_3, r2_3, r3_3, r4_3, P3_0, P3_1, P3_2, P3_3, P3_4, P3_5, P3_6, P3_7, P3_8, P3_9, P3_10, P3_11, rfl⟩ := q3.2.2
    show Gl _ _ _ _ _ _ _ _ [(.ref r1_3)]
    refine o_astore W3 (L' := #[.val (.int p0), .val (.int p1), .val (.int p2), .val (.int p3), .val (.int 1), .val (.ref r1_2), .val (.ref r1_3), .unset, .unset, .unset, .unset, .unset]) (pc' := 22) (hb hy at_20) rfl rfl rfl ?_
    refine o_iloadN W3 (pc' := 23) (hb hy at_22) rfl rfl ?_
    refine o_static W3 (y := (⟨"com/example/sessn/sessn/log/LoggedSessionCurrentPinLaw", "query", "(I)Lcom/example/sessn/sessn/log/LoggedQuery;"⟩ : MethodName)) (w1 hw) (w2 hw) (w3 hw) (w4 hw) (by decide) (argsL := [(.int p3)]) (CtrN.back (Wd := 0) W3 (rm10 l Z a0 hw gCS gO2 gO3 p3 h3 W3.old SgCS NgCS SgO2_DEFAULTCAPACITY_EMPTY_ELEMENTDATA SgO3_EMPTY_LIST) (w4 hw) (w3 hw) (by decide) (by decide)) (by rw [hml]; rfl) (lenOf pd6 rfl) (S := []) rfl (by exact Nat.le_of_eq rfl) (pc' := 26) (hb hy at_23) rfl (cells' := 18) (slots' := 54) rfl rfl (by decide) (by decide) (wy := []) (fun _ _ _ q => ⟨q.1, q.2.1⟩) all0 (fun _ K => IW.keep K sf0 W3.inv) ?_
    intro v4 T4 h4 lo4 W4 K4 q4
    obtain ⟨r1_4, r2_4, r3_4, r4_4, P4_0, P4_1, P4_2, P4_3, P4_4, P4_5, P4_6, P4_7, P4_8, P4_9, P4_10, P4_11, rfl⟩ := q4.2.2
    show Gl _ _ _ _ _ _ _ _ [(.ref r1_4)]
    refine o_astore W4 (L' := #[.val (.int p0), .val (.int p1), .val (.int p2), .val (.int p3), .val (.int 1), .val (.ref r1_2), .val (.ref r1_3), .val (.ref r1_4), .unset, .unset, .unset, .unset]) (pc' := 28) (hb hy at_26) rfl rfl rfl ?_
    refine o_new W4 (w38 hw) (w39 hw) (w40 hw) (fun _ E => IW.ext E W4.inv) (pc' := 31) (hb hy at_28) rfl (cells' := 19) (slots' := 57) rfl rfl (by decide) (by decide) ?_
    intro b5 T5 h5 W5 E5 ge5 gz5 gb5 A5 D5
    have Fb5_modCount : Fld Z h5 b5 "java/util/AbstractList" "modCount" "I" (.int 0) := D5 (Or.inl (w58 hw)) (ty := .int) (by decide)
    have Fb5_elementData : Fld Z h5 b5 "java/util/ArrayList" "elementData" "[Ljava/lang/Object;" .null := D5 (Or.inl (w61 hw)) (ty := (.array (.object "java/lang/Object"))) (by decide)
    have Fb5_size : Fld Z h5 b5 "java/util/ArrayList" "size" "I" (.int 0) := D5 (Or.inl (w95 hw)) (ty := .int) (by decide)
    refine o_dup W5 (pc' := 32) (hb hy at_31) rfl rfl ?_
    refine o_special W5 (y := (⟨"java/util/ArrayList", "<init>", "()V"⟩ : MethodName)) rfl (w41 hw) (w42 hw) (w43 hw) (by decide) (a := b5) (argsL := []) (CtrN.back (Wd := 1) W5 (rm3 l Z a0 hw gO2 b5 h5 W5.old A5 Fb5_modCount Fb5_elementData Fb5_size gz5 SgO2_DEFAULTCAPACITY_EMPTY_ELEMENTDATA) (w43 hw) (w40 hw) (by decide) (by decide)) (by rw [hml]; rfl) (lenOf pd1 rfl) (S := [(.ref b5)]) rfl (by exact Nat.le_of_eq rfl) (pc' := 35) (hb hy at_32) rfl (cells' := 19) (slots' := 57) rfl rfl (by decide) (by decide) (wy := [b5]) (fun _ _ _ q => ⟨q.1, q.2.1⟩) (allS ⟨gz5, (Or.inr gb5)⟩ all0) (fun _ K => IW.keep K (sfS (Safe.exa W5.al A5 (by decide) (by decide)) sf0) W5.inv) ?_
    intro v6 T6 h6 lo6 W6 K6 q6
    obtain ⟨P6_0, P6_1, P6_2, rfl⟩ := q6.2.2
    show Gl _ _ _ _ _ _ _ _ [(.ref b5)]
    refine o_astore W6 (L' := #[.val (.int p0), .val (.int p1), .val (.int p2), .val (.int p3), .val (.int 1), .val (.ref r1_2), .val (.ref r1_3), .val (.ref r1_4), .val (.ref b5), .unset, .unset, .unset]) (pc' := 37) (hb hy at_35) rfl rfl rfl ?_
    refine o_aload W6 (pc' := 39) (hb hy at_37) rfl rfl rfl ?_
    refine o_aload W6 (pc' := 41) (hb hy at_39) rfl rfl rfl ?_
    have c7 := (A5.keep K6)
    have c8 := ((((P2_3.keep K3).keep K4).ext E5).keep K6)
    refine o_virtual W6 (y := (⟨"java/util/ArrayList", "add", "(Ljava/lang/Object;)Z"⟩ : MethodName)) (z := (⟨"java/util/ArrayList", "add", "(Ljava/lang/Object;)Z"⟩ : MethodName)) (w108 hw) (w109 hw) (o_nf W6 rfl (w111 hw)) (w111 hw) (w110 hw) (by decide) c7 (argsL := [(.ref r1_2)]) (CtrN.back (Wd := 0) W6 (rm15 l Z a0 hw gO2 k_gO2 b5 r1_2 h6 W6.old P6_0 c7 gz5 P6_1 P6_2 VgO2 SgO2_DEFAULTCAPACITY_EMPTY_ELEMENTDATA c8) (w112 hw) (w40 hw) (by decide) (by decide)) (by rw [hml]; rfl) (lenOf pd11 rfl) (S := []) rfl (by exact Nat.le_of_eq rfl) (pc' := 44) (hb hy at_41) rfl (cells' := 20) (slots' := 67) rfl rfl (by decide) (by decide) (wy := [b5]) (fun _ _ _ q => ⟨q.1, q.2.1⟩) (allS ⟨gz5, (Or.inr gb5)⟩ all0) (fun _ K => IW.keep K (sfS (Safe.exa W6.al c7 (by decide) (by decide)) sf0) W6.inv) ?_
    intro v9 T9 h9 lo9 W9 K9 q9
    obtain ⟨r1_9, r2_9, P9_0, P9_1, P9_2, P9_3, P9_4, P9_5, P9_6, rfl⟩ := q9.2.2
    show Gl _ _ _ _ _ _ _ _ [(.int 1)]
    refine o_pop W9 (pc' := 45) (hb hy at_44) rfl rfl ?_
    refine o_iload W9 (pc' := 47) (hb hy at_45) rfl rfl ?_
    refine o_iconst W9 (v := 2) (pc' := 48) (hb hy at_47) rfl rfl ?_
    refine o_icmpY W9 (pc' := 59) (hb hy at_48) (XT.ii_lt_t (by decide)) (by decide) rfl ?_
    refine o_iload W9 (pc' := 61) (hb hy at_59) rfl rfl ?_
    refine o_iconst W9 (v := 3) (pc' := 62) (hb hy at_61) rfl rfl ?_
    refine o_icmpY W9 (pc' := 73) (hb hy at_62) (XT.ii_lt_t (by decide)) (by decide) rfl ?_
    refine o_new W9 (w137 hw) (w138 hw) (w139 hw) (fun _ E => IW.ext E W9.inv) (pc' := 76) (hb hy at_73) rfl (cells' := 21) (slots' := 69) rfl rfl (by decide) (by decide) ?_
    intro b10 T10 h10 W10 E10 ge10 gz10 gb10 A10 D10
    have Fb10_id : Fld Z h10 b10 "com/example/sessn/sessn/log/LoggedSession" "id" "Ljava/lang/String;" .null := D10 (Or.inr (w217 hw)) (ty := (.object "java/lang/String")) (by decide)
    have Fb10_queries : Fld Z h10 b10 "com/example/sessn/sessn/log/LoggedSession" "queries" "Ljava/util/List;" .null := D10 (Or.inr (w219 hw)) (ty := (.object "java/util/List")) (by decide)
    refine o_dup W10 (pc' := 77) (hb hy at_76) rfl rfl ?_
    refine o_ldcO W10 (w140 hw) (own_wS hw) (own_EL hw) (pc' := 79) (hb hy at_77) rfl (n := 8) (by decide) (by decide) (cells' := 23) (slots' := 81) rfl rfl (by decide) (by decide) ?_
    intro s11 T11 h11 V11 W11 E11 C11
    refine o_aload W11 (pc' := 81) (hb hy at_79) rfl rfl rfl ?_
    have c12 := ((P9_3.ext E10).ext E11)
    have c13 := ((P9_2.ext E10).ext E11)
    have c14 := ((P9_4.ext E10).ext E11)
    have c15 := (Fb10_id.ext E11)
    have c16 := (Fb10_queries.ext E11)
    have c17 := (((c7.keep K9).ext E10).ext E11)
    have c18 := ((P9_6.ext E10).ext E11)
    have c19 := (((c8.keep K9).ext E10).ext E11)
    have c20 := (A10.ext E11)
    refine o_special W11 (y := (⟨"com/example/sessn/sessn/log/LoggedSession", "<init>", "(Ljava/lang/String;Ljava/util/List;)V"⟩ : MethodName)) rfl (w143 hw) (w144 hw) (w145 hw) (by decide) (a := b10) (argsL := [(.ref s11), (.ref b5)]) (CtrN.back (Wd := 1) W11 (rm28 l Z a0 hw gMO gO5 b10 s11 b5 r1_9 r2_9 r1_2 h11 W11.old c17 c12 c13 c18 MgMO c14 c19 SgO5_EMPTY c20 c15 gz10 c16) (w145 hw) (w139 hw) (by decide) (by decide)) (by rw [hml]; rfl) (lenOf pd17 rfl) (S := [(.ref b10)]) rfl (by exact Nat.le_of_eq rfl) (pc' := 84) (hb hy at_81) rfl (cells' := 25) (slots' := 84) rfl rfl (by decide) (by decide) (wy := [b10]) (fun _ _ _ q => ⟨q.1, q.2.1⟩) (allS ⟨gz10, (Or.inr gb10)⟩ all0) (fun _ K => IW.keep K (sfS (Safe.exa W11.al c20 (by decide) (by decide)) sf0) W11.inv) ?_
    intro v21 T21 h21 lo21 W21 K21 q21
    obtain ⟨r1_21, P21_0, P21_1, P21_2, P21_3, P21_4, P21_5, rfl⟩ := q21.2.2
    show Gl _ _ _ _ _ _ _ _ [(.ref b10)]
    refine o_astore W21 (L' := #[.val (.int p0), .val (.int p1), .val (.int p2), .val (.int p3), .val (.int 1), .val (.ref r1_2), .val (.ref r1_3), .val (.ref r1_4), .val (.ref b5), .val (.ref b10), .unset, .unset]) (pc' := 86) (hb hy at_84) rfl rfl rfl ?_
    refine o_aload W21 (pc' := 88) (hb hy at_86) rfl rfl rfl ?_
    refine o_aload W21 (pc' := 90) (hb hy at_88) rfl rfl rfl ?_
    have c22 := (c7.keep K9)
    have c23 := (((P9_1.ext E10).ext E11).keep K21 (ninS (own_ne c22.lt ge10) nin0))
    have c24 := (c13.keep K21 (ninS (own_ne c22.lt ge10) nin0))
    have c25 := (c12.keep K21 (ninS (own_ne c22.lt ge10) nin0))
    have c26 := (c14.keep K21 (ninS (own_ne P9_4.lt ge10) nin0))
    have c27 := (c17.keep K21)
    have c28 := (c18.keep K21)
    have c29 := (c19.keep K21)
    refine o_virtual W21 (y := (⟨"java/util/ArrayList", "add", "(Ljava/lang/Object;)Z"⟩ : MethodName)) (z := (⟨"java/util/ArrayList", "add", "(Ljava/lang/Object;)Z"⟩ : MethodName)) (w108 hw) (w109 hw) (o_nf W21 rfl (w111 hw)) (w111 hw) (w110 hw) (by decide) c27 (argsL := [(.ref r1_2)]) (CtrN.back (Wd := 0) W21 (rm30 l Z a0 hw b5 r1_2 r1_9 r2_9 h21 W21.old c23 c27 gz5 c24 c25 c26 c28 P9_5 c29 (Nat.le_trans W6.zs P9_0)) (w112 hw) (w40 hw) (by decide) (by decide)) (by rw [hml]; rfl) (lenOf pd11 rfl) (S := []) rfl (by exact Nat.le_of_eq rfl) (pc' := 93) (hb hy at_90) rfl (cells' := 25) (slots' := 84) rfl rfl (by decide) (by decide) (wy := [b5, r1_9]) (fun _ _ _ q => ⟨q.1, q.2.1⟩) (allS ⟨gz5, (Or.inr gb5)⟩ (allS ⟨(Nat.le_trans W6.zs P9_0), (Or.inr (Nat.le_trans W6.keep.1 P9_0))⟩ all0)) (fun _ K => IW.keep K (sfS (Safe.exa W21.al c27 (by decide) (by decide)) (sfS (Safe.arv W21.al c26 (by decide)) sf0)) W21.inv) ?_
    intro v30 T30 h30 lo30 W30 K30 q30
    obtain ⟨P30_0, P30_1, P30_2, P30_3, rfl⟩ := q30.2.2
    show Gl _ _ _ _ _ _ _ _ [(.int 1)]
    refine o_pop W30 (pc' := 94) (hb hy at_93) rfl rfl ?_
    refine o_iload W30 (pc' := 96) (hb hy at_94) rfl rfl ?_
    refine o_iconst W30 (v := 1) (pc' := 97) (hb hy at_96) rfl rfl ?_
    refine o_icmpN W30 (pc' := 100) (hb hy at_97) (XT.ii_ne_f (by decide)) rfl ?_
    refine o_aload W30 (pc' := 102) (hb hy at_100) rfl rfl rfl ?_
    refine o_goto W30 (pc' := 118) (hb hy at_102) (by decide) rfl ?_
    refine o_astore W30 (L' := #[.val (.int p0), .val (.int p1), .val (.int p2), .val (.int p3), .val (.int 1), .val (.ref r1_2), .val (.ref r1_3), .val (.ref r1_4), .val (.ref b5), .val (.ref b10), .val (.ref r1_2), .unset]) (pc' := 120) (hb hy at_118) rfl rfl rfl ?_
    refine o_aload W30 (pc' := 122) (hb hy at_120) rfl rfl rfl ?_
    have c31 := (P21_2.keep K30 (ninS (own_ne' c22.lt ge10) (ninS (own_ne' P9_4.lt ge10) nin0)))
    have c32 := (P21_5.keep K30 (ninS (own_ne' c17.lt P21_0) (ninS (own_ne' c14.lt P21_0) nin0)))
    have c33 := (P21_4.keep K30 (ninS (own_ne' c17.lt P21_0) (ninS (own_ne' c14.lt P21_0) nin0)))
    have c34 := (P21_3.keep K30)
    have c35 := (c29.keep K30)
    have c36 := ((c20.keep K21).keep K30)
    refine o_virtual W30 (y := (⟨"com/example/sessn/sessn/log/LoggedSession", "current", "()Lcom/example/sessn/sessn/log/LoggedQuery;"⟩ : MethodName)) (z := (⟨"com/example/sessn/sessn/log/LoggedSession", "current", "()Lcom/example/sessn/sessn/log/LoggedQuery;"⟩ : MethodName)) (w220 hw) (w221 hw) (o_nf W30 rfl (w223 hw)) (w223 hw) (w222 hw) (by decide) c36 (argsL := []) (CtrN.back (Wd := 0) W30 (rm33 l Z a0 hw gO5 b10 r1_21 r1_2 h30 W30.old c31 c34 c32 SgO5_EMPTY c33 c35) (w224 hw) (w139 hw) (by decide) (by decide)) (by rw [hml]; rfl) (lenOf pd20 rfl) (S := []) rfl (by exact Nat.le_of_eq rfl) (pc' := 125) (hb hy at_122) rfl (cells' := 25) (slots' := 84) rfl rfl (by decide) (by decide) (wy := []) (fun _ _ _ q => ⟨q.1, q.2.1⟩) all0 (fun _ K => IW.keep K sf0 W30.inv) ?_
    intro v37 T37 h37 lo37 W37 K37 q37
    obtain rfl := q37.2.2
    show Gl _ _ _ _ _ _ _ _ [(.ref r1_2)]
    refine o_astore W37 (L' := #[.val (.int p0), .val (.int p1), .val (.int p2), .val (.int p3), .val (.int 1), .val (.ref r1_2), .val (.ref r1_3), .val (.ref r1_4), .val (.ref b5), .val (.ref b10), .val (.ref r1_2), .val (.ref r1_2)]) (pc' := 127) (hb hy at_125) rfl rfl rfl ?_
    refine o_aload W37 (pc' := 129) (hb hy at_127) rfl rfl rfl ?_
    refine o_aload W37 (pc' := 131) (hb hy at_129) rfl rfl rfl ?_
    refine o_acmpN W37 (pc' := 134) (hb hy at_131) rfl rfl (XT.aa_ne_f rfl) rfl ?_
    refine o_iconst W37 (v := 1) (pc' := 135) (hb hy at_134) rfl rfl ?_
    refine o_goto W37 (pc' := 139) (hb hy at_135) (by decide) rfl ?_
    exact o_retNW W37 (own_EL hw) hlk (t := .boolean) hret (by simp) (z' := (1 : Int32)) (by decide) (hb hy at_139) (by decide) (by decide) rfl
  · refine o_irem W0 (v := 1) (pc' := 6) (hb hy at_5) (by decide) ek1 rfl ?_
    refine o_iconst W0 (v := 1) (pc' := 7) (hb hy at_6) rfl rfl ?_
    refine o_iadd W0 (v := 2) (pc' := 8) (hb hy at_7) (by decide) rfl ?_
    refine o_istore W0 (L' := #[.val (.int p0), .val (.int p1), .val (.int p2), .val (.int p3), .val (.int 2), .unset, .unset, .unset, .unset, .unset, .unset, .unset]) (pc' := 10) (hb hy at_8) rfl rfl ?_
    refine o_iloadN W0 (pc' := 11) (hb hy at_10) rfl rfl ?_
    refine o_static W0 (y := (⟨"com/example/sessn/sessn/log/LoggedSessionCurrentPinLaw", "query", "(I)Lcom/example/sessn/sessn/log/LoggedQuery;"⟩ : MethodName)) (w1 hw) (w2 hw) (w3 hw) (w4 hw) (by decide) (argsL := [(.int p1)]) (CtrN.back (Wd := 0) W0 (rm10 l Z a0 hw gCS gO2 gO3 p1 h0 W0.old SgCS NgCS SgO2_DEFAULTCAPACITY_EMPTY_ELEMENTDATA SgO3_EMPTY_LIST) (w4 hw) (w3 hw) (by decide) (by decide)) (by rw [hml]; rfl) (lenOf pd6 rfl) (S := []) rfl (by exact Nat.le_of_eq rfl) (pc' := 14) (hb hy at_11) rfl (cells' := 6) (slots' := 18) rfl rfl (by decide) (by decide) (wy := []) (fun _ _ _ q => ⟨q.1, q.2.1⟩) all0 (fun _ K => IW.keep K sf0 W0.inv) ?_
    intro v38 T38 h38 lo38 W38 K38 q38
    obtain ⟨r1_38, r2_38, r3_38, r4_38, P38_0, P38_1, P38_2, P38_3, P38_4, P38_5, P38_6, P38_7, P38_8, P38_9, P38_10, P38_11, rfl⟩ := q38.2.2
    show Gl _ _ _ _ _ _ _ _ [(.ref r1_38)]
    refine o_astore W38 (L' := #[.val (.int p0), .val (.int p1), .val (.int p2), .val (.int p3), .val (.int 2), .val (.ref r1_38), .unset, .unset, .unset, .unset, .unset, .unset]) (pc' := 16) (hb hy at_14) rfl rfl rfl ?_
    refine o_iloadN W38 (pc' := 17) (hb hy at_16) rfl rfl ?_
    refine o_static W38 (y := (⟨"com/example/sessn/sessn/log/LoggedSessionCurrentPinLaw", "query", "(I)Lcom/example/sessn/sessn/log/LoggedQuery;"⟩ : MethodName)) (w1 hw) (w2 hw) (w3 hw) (w4 hw) (by decide) (argsL := [(.int p2)]) (CtrN.back (Wd := 0) W38 (rm10 l Z a0 hw gCS gO2 gO3 p2 h38 W38.old SgCS NgCS SgO2_DEFAULTCAPACITY_EMPTY_ELEMENTDATA SgO3_EMPTY_LIST) (w4 hw) (w3 hw) (by decide) (by decide)) (by rw [hml]; rfl) (lenOf pd6 rfl) (S := []) rfl (by exact Nat.le_of_eq rfl) (pc' := 20) (hb hy at_17) rfl (cells' := 12) (slots' := 36) rfl rfl (by decide) (by decide) (wy := []) (fun _ _ _ q => ⟨q.1, q.2.1⟩) all0 (fun _ K => IW.keep K sf0 W38.inv) ?_
    intro v39 T39 h39 lo39 W39 K39 q39
    obtain ⟨r1_39, r2_39, r3_39, r4_39, P39_0, P39_1, P39_2, P39_3, P39_4, P39_5, P39_6, P39_7, P39_8, P39_9, P39_10, P39_11, rfl⟩ := q39.2.2
    show Gl _ _ _ _ _ _ _ _ [(.ref r1_39)]
    refine o_astore W39 (L' := #[.val (.int p0), .val (.int p1), .val (.int p2), .val (.int p3), .val (.int 2), .val (.ref r1_38), .val (.ref r1_39), .unset, .unset, .unset, .unset, .unset]) (pc' := 22) (hb hy at_20) rfl rfl rfl ?_
    refine o_iloadN W39 (pc' := 23) (hb hy at_22) rfl rfl ?_
    refine o_static W39 (y := (⟨"com/example/sessn/sessn/log/LoggedSessionCurrentPinLaw", "query", "(I)Lcom/example/sessn/sessn/log/LoggedQuery;"⟩ : MethodName)) (w1 hw) (w2 hw) (w3 hw) (w4 hw) (by decide) (argsL := [(.int p3)]) (CtrN.back (Wd := 0) W39 (rm10 l Z a0 hw gCS gO2 gO3 p3 h39 W39.old SgCS NgCS SgO2_DEFAULTCAPACITY_EMPTY_ELEMENTDATA SgO3_EMPTY_LIST) (w4 hw) (w3 hw) (by decide) (by decide)) (by rw [hml]; rfl) (lenOf pd6 rfl) (S := []) rfl (by exact Nat.le_of_eq rfl) (pc' := 26) (hb hy at_23) rfl (cells' := 18) (slots' := 54) rfl rfl (by decide) (by decide) (wy := []) (fun _ _ _ q => ⟨q.1, q.2.1⟩) all0 (fun _ K => IW.keep K sf0 W39.inv) ?_
    intro v40 T40 h40 lo40 W40 K40 q40
    obtain ⟨r1_40, r2_40, r3_40, r4_40, P40_0, P40_1, P40_2, P40_3, P40_4, P40_5, P40_6, P40_7, P40_8, P40_9, P40_10, P40_11, rfl⟩ := q40.2.2
    show Gl _ _ _ _ _ _ _ _ [(.ref r1_40)]
    refine o_astore W40 (L' := #[.val (.int p0), .val (.int p1), .val (.int p2), .val (.int p3), .val (.int 2), .val (.ref r1_38), .val (.ref r1_39), .val (.ref r1_40), .unset, .unset, .unset, .unset]) (pc' := 28) (hb hy at_26) rfl rfl rfl ?_
    refine o_new W40 (w38 hw) (w39 hw) (w40 hw) (fun _ E => IW.ext E W40.inv) (pc' := 31) (hb hy at_28) rfl (cells' := 19) (slots' := 57) rfl rfl (by decide) (by decide) ?_
    intro b41 T41 h41 W41 E41 ge41 gz41 gb41 A41 D41
    have Fb41_modCount : Fld Z h41 b41 "java/util/AbstractList" "modCount" "I" (.int 0) := D41 (Or.inl (w58 hw)) (ty := .int) (by decide)
    have Fb41_elementData : Fld Z h41 b41 "java/util/ArrayList" "elementData" "[Ljava/lang/Object;" .null := D41 (Or.inl (w61 hw)) (ty := (.array (.object "java/lang/Object"))) (by decide)
    have Fb41_size : Fld Z h41 b41 "java/util/ArrayList" "size" "I" (.int 0) := D41 (Or.inl (w95 hw)) (ty := .int) (by decide)
    refine o_dup W41 (pc' := 32) (hb hy at_31) rfl rfl ?_
    refine o_special W41 (y := (⟨"java/util/ArrayList", "<init>", "()V"⟩ : MethodName)) rfl (w41 hw) (w42 hw) (w43 hw) (by decide) (a := b41) (argsL := []) (CtrN.back (Wd := 1) W41 (rm3 l Z a0 hw gO2 b41 h41 W41.old A41 Fb41_modCount Fb41_elementData Fb41_size gz41 SgO2_DEFAULTCAPACITY_EMPTY_ELEMENTDATA) (w43 hw) (w40 hw) (by decide) (by decide)) (by rw [hml]; rfl) (lenOf pd1 rfl) (S := [(.ref b41)]) rfl (by exact Nat.le_of_eq rfl) (pc' := 35) (hb hy at_32) rfl (cells' := 19) (slots' := 57) rfl rfl (by decide) (by decide) (wy := [b41]) (fun _ _ _ q => ⟨q.1, q.2.1⟩) (allS ⟨gz41, (Or.inr gb41)⟩ all0) (fun _ K => IW.keep K (sfS (Safe.exa W41.al A41 (by decide) (by decide)) sf0) W41.inv) ?_
    intro v42 T42 h42 lo42 W42 K42 q42
    obtain ⟨P42_0, P42_1, P42_2, rfl⟩ := q42.2.2
    show Gl _ _ _ _ _ _ _ _ [(.ref b41)]
    refine o_astore W42 (L' := #[.val (.int p0), .val (.int p1), .val (.int p2), .val (.int p3), .val (.int 2), .val (.ref r1_38), .val (.ref r1_39), .val (.ref r1_40), .val (.ref b41), .unset, .unset, .unset]) (pc' := 37) (hb hy at_35) rfl rfl rfl ?_
    refine o_aload W42 (pc' := 39) (hb hy at_37) rfl rfl rfl ?_
    refine o_aload W42 (pc' := 41) (hb hy at_39) rfl rfl rfl ?_
    have c43 := (A41.keep K42)
    have c44 := ((((P38_3.keep K39).keep K40).ext E41).keep K42)
    refine o_virtual W42 (y := (⟨"java/util/ArrayList", "add", "(Ljava/lang/Object;)Z"⟩ : MethodName)) (z := (⟨"java/util/ArrayList", "add", "(Ljava/lang/Object;)Z"⟩ : MethodName)) (w108 hw) (w109 hw) (o_nf W42 rfl (w111 hw)) (w111 hw) (w110 hw) (by decide) c43 (argsL := [(.ref r1_38)]) (CtrN.back (Wd := 0) W42 (rm15 l Z a0 hw gO2 k_gO2 b41 r1_38 h42 W42.old P42_0 c43 gz41 P42_1 P42_2 VgO2 SgO2_DEFAULTCAPACITY_EMPTY_ELEMENTDATA c44) (w112 hw) (w40 hw) (by decide) (by decide)) (by rw [hml]; rfl) (lenOf pd11 rfl) (S := []) rfl (by exact Nat.le_of_eq rfl) (pc' := 44) (hb hy at_41) rfl (cells' := 20) (slots' := 67) rfl rfl (by decide) (by decide) (wy := [b41]) (fun _ _ _ q => ⟨q.1, q.2.1⟩) (allS ⟨gz41, (Or.inr gb41)⟩ all0) (fun _ K => IW.keep K (sfS (Safe.exa W42.al c43 (by decide) (by decide)) sf0) W42.inv) ?_
    intro v45 T45 h45 lo45 W45 K45 q45
    obtain ⟨r1_45, r2_45, P45_0, P45_1, P45_2, P45_3, P45_4, P45_5, P45_6, rfl⟩ := q45.2.2
    show Gl _ _ _ _ _ _ _ _ [(.int 1)]
    refine o_pop W45 (pc' := 45) (hb hy at_44) rfl rfl ?_
    refine o_iload W45 (pc' := 47) (hb hy at_45) rfl rfl ?_
    refine o_iconst W45 (v := 2) (pc' := 48) (hb hy at_47) rfl rfl ?_
    refine o_icmpN W45 (pc' := 51) (hb hy at_48) (XT.ii_lt_f (by decide)) rfl ?_
    refine o_aload W45 (pc' := 53) (hb hy at_51) rfl rfl rfl ?_
    refine o_aload W45 (pc' := 55) (hb hy at_53) rfl rfl rfl ?_
    have c46 := (c43.keep K45)
    have c47 := ((((P39_3.keep K40).ext E41).keep K42).keep K45)
    refine o_virtual W45 (y := (⟨"java/util/ArrayList", "add", "(Ljava/lang/Object;)Z"⟩ : MethodName)) (z := (⟨"java/util/ArrayList", "add", "(Ljava/lang/Object;)Z"⟩ : MethodName)) (w108 hw) (w109 hw) (o_nf W45 rfl (w111 hw)) (w111 hw) (w110 hw) (by decide) c46 (argsL := [(.ref r1_39)]) (CtrN.back (Wd := 0) W45 (rm35 l Z a0 hw b41 r1_39 r1_45 r2_45 r1_38 h45 W45.old P45_1 c46 gz41 P45_2 P45_3 P45_4 P45_6 P45_5 c47 (Nat.le_trans W42.zs P45_0)) (w112 hw) (w40 hw) (by decide) (by decide)) (by rw [hml]; rfl) (lenOf pd11 rfl) (S := []) rfl (by exact Nat.le_of_eq rfl) (pc' := 58) (hb hy at_55) rfl (cells' := 20) (slots' := 67) rfl rfl (by decide) (by decide) (wy := [b41, r1_45]) (fun _ _ _ q => ⟨q.1, q.2.1⟩) (allS ⟨gz41, (Or.inr gb41)⟩ (allS ⟨(Nat.le_trans W42.zs P45_0), (Or.inr (Nat.le_trans W42.keep.1 P45_0))⟩ all0)) (fun _ K => IW.keep K (sfS (Safe.exa W45.al c46 (by decide) (by decide)) (sfS (Safe.arv W45.al P45_4 (by decide)) sf0)) W45.inv) ?_
    intro v48 T48 h48 lo48 W48 K48 q48
    obtain ⟨P48_0, P48_1, P48_2, P48_3, rfl⟩ := q48.2.2
    show Gl _ _ _ _ _ _ _ _ [(.int 1)]
    refine o_pop W48 (pc' := 59) (hb hy at_58) rfl rfl ?_
    refine o_iload W48 (pc' := 61) (hb hy at_59) rfl rfl ?_
    refine o_iconst W48 (v := 3) (pc' := 62) (hb hy at_61) rfl rfl ?_
    refine o_icmpY W48 (pc' := 73) (hb hy at_62) (XT.ii_lt_t (by decide)) (by decide) rfl ?_
    refine o_new W48 (w137 hw) (w138 hw) (w139 hw) (fun _ E => IW.ext E W48.inv) (pc' := 76) (hb hy at_73) rfl (cells' := 21) (slots' := 69) rfl rfl (by decide) (by decide) ?_
    intro b49 T49 h49 W49 E49 ge49 gz49 gb49 A49 D49
    have Fb49_id : Fld Z h49 b49 "com/example/sessn/sessn/log/LoggedSession" "id" "Ljava/lang/String;" .null := D49 (Or.inr (w217 hw)) (ty := (.object "java/lang/String")) (by decide)
    have Fb49_queries : Fld Z h49 b49 "com/example/sessn/sessn/log/LoggedSession" "queries" "Ljava/util/List;" .null := D49 (Or.inr (w219 hw)) (ty := (.object "java/util/List")) (by decide)
    refine o_dup W49 (pc' := 77) (hb hy at_76) rfl rfl ?_
    refine o_ldcO W49 (w140 hw) (own_wS hw) (own_EL hw) (pc' := 79) (hb hy at_77) rfl (n := 8) (by decide) (by decide) (cells' := 23) (slots' := 81) rfl rfl (by decide) (by decide) ?_
    intro s50 T50 h50 V50 W50 E50 C50
    refine o_aload W50 (pc' := 81) (hb hy at_79) rfl rfl rfl ?_
    have c51 := ((P48_2.ext E49).ext E50)
    have c52 := ((P48_1.ext E49).ext E50)
    have c53 := ((P48_3.ext E49).ext E50)
    have c54 := (Fb49_id.ext E50)
    have c55 := (Fb49_queries.ext E50)
    have c56 := (((c46.keep K48).ext E49).ext E50)
    have c57 := (((P45_6.keep K48).ext E49).ext E50)
    have c58 := (((c47.keep K48).ext E49).ext E50)
    have c59 := ((((c44.keep K45).keep K48).ext E49).ext E50)
    have c60 := (A49.ext E50)
    refine o_special W50 (y := (⟨"com/example/sessn/sessn/log/LoggedSession", "<init>", "(Ljava/lang/String;Ljava/util/List;)V"⟩ : MethodName)) rfl (w143 hw) (w144 hw) (w145 hw) (by decide) (a := b49) (argsL := [(.ref s50), (.ref b41)]) (CtrN.back (Wd := 1) W50 (rm45 l Z a0 hw gMO b49 s50 b41 r1_45 r2_45 r1_38 r1_39 h50 W50.old c56 c51 c52 c57 MgMO c53 c58 c59 c60 c54 gz49 c55) (w145 hw) (w139 hw) (by decide) (by decide)) (by rw [hml]; rfl) (lenOf pd17 rfl) (S := [(.ref b49)]) rfl (by exact Nat.le_of_eq rfl) (pc' := 84) (hb hy at_81) rfl (cells' := 25) (slots' := 85) rfl rfl (by decide) (by decide) (wy := [b49]) (fun _ _ _ q => ⟨q.1, q.2.1⟩) (allS ⟨gz49, (Or.inr gb49)⟩ all0) (fun _ K => IW.keep K (sfS (Safe.exa W50.al c60 (by decide) (by decide)) sf0) W50.inv) ?_
    intro v61 T61 h61 lo61 W61 K61 q61
    obtain ⟨r1_61, P61_0, P61_1, P61_2, P61_3, P61_4, P61_5, rfl⟩ := q61.2.2
    show Gl _ _ _ _ _ _ _ _ [(.ref b49)]
    refine o_astore W61 (L' := #[.val (.int p0), .val (.int p1), .val (.int p2), .val (.int p3), .val (.int 2), .val (.ref r1_38), .val (.ref r1_39), .val (.ref r1_40), .val (.ref b41), .val (.ref b49), .unset, .unset]) (pc' := 86) (hb hy at_84) rfl rfl rfl ?_
    refine o_aload W61 (pc' := 88) (hb hy at_86) rfl rfl rfl ?_
    refine o_aload W61 (pc' := 90) (hb hy at_88) rfl rfl rfl ?_
    have c62 := (c46.keep K48)
    have c63 := (((P48_0.ext E49).ext E50).keep K61 (ninS (own_ne c62.lt ge49) nin0))
    have c64 := (c52.keep K61 (ninS (own_ne c62.lt ge49) nin0))
    have c65 := (c51.keep K61 (ninS (own_ne c62.lt ge49) nin0))
    have c66 := (c53.keep K61 (ninS (own_ne P48_3.lt ge49) nin0))
    have c67 := (c56.keep K61)
    have c68 := (c57.keep K61)
    have c69 := (c59.keep K61)
    refine o_virtual W61 (y := (⟨"java/util/ArrayList", "add", "(Ljava/lang/Object;)Z"⟩ : MethodName)) (z := (⟨"java/util/ArrayList", "add", "(Ljava/lang/Object;)Z"⟩ : MethodName)) (w108 hw) (w109 hw) (o_nf W61 rfl (w111 hw)) (w111 hw) (w110 hw) (by decide) c67 (argsL := [(.ref r1_38)]) (CtrN.back (Wd := 0) W61 (rm47 l Z a0 hw b41 r1_38 r1_45 r2_45 r1_39 h61 W61.old c63 c67 gz41 c64 c65 c66 c68 P45_5 c69 (Nat.le_trans W42.zs P45_0)) (w112 hw) (w40 hw) (by decide) (by decide)) (by rw [hml]; rfl) (lenOf pd11 rfl) (S := []) rfl (by exact Nat.le_of_eq rfl) (pc' := 93) (hb hy at_90) rfl (cells' := 25) (slots' := 85) rfl rfl (by decide) (by decide) (wy := [b41, r1_45]) (fun _ _ _ q => ⟨q.1, q.2.1⟩) (allS ⟨gz41, (Or.inr gb41)⟩ (allS ⟨(Nat.le_trans W42.zs P45_0), (Or.inr (Nat.le_trans W42.keep.1 P45_0))⟩ all0)) (fun _ K => IW.keep K (sfS (Safe.exa W61.al c67 (by decide) (by decide)) (sfS (Safe.arv W61.al c66 (by decide)) sf0)) W61.inv) ?_
    intro v70 T70 h70 lo70 W70 K70 q70
    obtain ⟨P70_0, P70_1, P70_2, P70_3, rfl⟩ := q70.2.2
    show Gl _ _ _ _ _ _ _ _ [(.int 1)]
    refine o_pop W70 (pc' := 94) (hb hy at_93) rfl rfl ?_
    refine o_iload W70 (pc' := 96) (hb hy at_94) rfl rfl ?_
    refine o_iconst W70 (v := 1) (pc' := 97) (hb hy at_96) rfl rfl ?_
    refine o_icmpY W70 (pc' := 105) (hb hy at_97) (XT.ii_ne_t (by decide)) (by decide) rfl ?_
    refine o_iload W70 (pc' := 107) (hb hy at_105) rfl rfl ?_
    refine o_iconst W70 (v := 2) (pc' := 108) (hb hy at_107) rfl rfl ?_
    refine o_icmpN W70 (pc' := 111) (hb hy at_108) (XT.ii_ne_f (by decide)) rfl ?_
    refine o_aload W70 (pc' := 113) (hb hy at_111) rfl rfl rfl ?_
    refine o_goto W70 (pc' := 118) (hb hy at_113) (by decide) rfl ?_
    refine o_astore W70 (L' := #[.val (.int p0), .val (.int p1), .val (.int p2), .val (.int p3), .val (.int 2), .val (.ref r1_38), .val (.ref r1_39), .val (.ref r1_40), .val (.ref b41), .val (.ref b49), .val (.ref r1_39), .unset]) (pc' := 120) (hb hy at_118) rfl rfl rfl ?_
    refine o_aload W70 (pc' := 122) (hb hy at_120) rfl rfl rfl ?_
    have c71 := (P61_2.keep K70 (ninS (own_ne' c62.lt ge49) (ninS (own_ne' P48_3.lt ge49) nin0)))
    have c72 := (P61_5.keep K70 (ninS (own_ne' c56.lt P61_0) (ninS (own_ne' c53.lt P61_0) nin0)))
    have c73 := (P61_3.keep K70)
    have c74 := ((c58.keep K61).keep K70)
    have c75 := ((c60.keep K61).keep K70)
    refine o_virtual W70 (y := (⟨"com/example/sessn/sessn/log/LoggedSession", "current", "()Lcom/example/sessn/sessn/log/LoggedQuery;"⟩ : MethodName)) (z := (⟨"com/example/sessn/sessn/log/LoggedSession", "current", "()Lcom/example/sessn/sessn/log/LoggedQuery;"⟩ : MethodName)) (w220 hw) (w221 hw) (o_nf W70 rfl (w223 hw)) (w223 hw) (w222 hw) (by decide) c75 (argsL := []) (CtrN.back (Wd := 0) W70 (rm50 l Z a0 hw gO5 b49 r1_61 r1_39 h70 W70.old c71 c73 c72 SgO5_EMPTY c74 XgO5) (w224 hw) (w139 hw) (by decide) (by decide)) (by rw [hml]; rfl) (lenOf pd20 rfl) (S := []) rfl (by exact Nat.le_of_eq rfl) (pc' := 125) (hb hy at_122) rfl (cells' := 25) (slots' := 85) rfl rfl (by decide) (by decide) (wy := []) (fun _ _ _ q => ⟨q.1, q.2.1⟩) all0 (fun _ K => IW.keep K sf0 W70.inv) ?_
    intro v76 T76 h76 lo76 W76 K76 q76
    obtain rfl := q76.2.2
    show Gl _ _ _ _ _ _ _ _ [(.ref r1_39)]
    refine o_astore W76 (L' := #[.val (.int p0), .val (.int p1), .val (.int p2), .val (.int p3), .val (.int 2), .val (.ref r1_38), .val (.ref r1_39), .val (.ref r1_40), .val (.ref b41), .val (.ref b49), .val (.ref r1_39), .val (.ref r1_39)]) (pc' := 127) (hb hy at_125) rfl rfl rfl ?_
    refine o_aload W76 (pc' := 129) (hb hy at_127) rfl rfl rfl ?_
    refine o_aload W76 (pc' := 131) (hb hy at_129) rfl rfl rfl ?_
    refine o_acmpN W76 (pc' := 134) (hb hy at_131) rfl rfl (XT.aa_ne_f rfl) rfl ?_
    refine o_iconst W76 (v := 1) (pc' := 135) (hb hy at_134) rfl rfl ?_
    refine o_goto W76 (pc' := 139) (hb hy at_135) (by decide) rfl ?_
    exact o_retNW W76 (own_EL hw) hlk (t := .boolean) hret (by simp) (z' := (1 : Int32)) (by decide) (hb hy at_139) (by decide) (by decide) rfl
  · refine o_irem W0 (v := 2) (pc' := 6) (hb hy at_5) (by decide) ek1 rfl ?_
    refine o_iconst W0 (v := 1) (pc' := 7) (hb hy at_6) rfl rfl ?_
    refine o_iadd W0 (v := 3) (pc' := 8) (hb hy at_7) (by decide) rfl ?_
    refine o_istore W0 (L' := #[.val (.int p0), .val (.int p1), .val (.int p2), .val (.int p3), .val (.int 3), .unset, .unset, .unset, .unset, .unset, .unset, .unset]) (pc' := 10) (hb hy at_8) rfl rfl ?_
    refine o_iloadN W0 (pc' := 11) (hb hy at_10) rfl rfl ?_
    refine o_static W0 (y := (⟨"com/example/sessn/sessn/log/LoggedSessionCurrentPinLaw", "query", "(I)Lcom/example/sessn/sessn/log/LoggedQuery;"⟩ : MethodName)) (w1 hw) (w2 hw) (w3 hw) (w4 hw) (by decide) (argsL := [(.int p1)]) (CtrN.back (Wd := 0) W0 (rm10 l Z a0 hw gCS gO2 gO3 p1 h0 W0.old SgCS NgCS SgO2_DEFAULTCAPACITY_EMPTY_ELEMENTDATA SgO3_EMPTY_LIST) (w4 hw) (w3 hw) (by decide) (by decide)) (by rw [hml]; rfl) (lenOf pd6 rfl) (S := []) rfl (by exact Nat.le_of_eq rfl) (pc' := 14) (hb hy at_11) rfl (cells' := 6) (slots' := 18) rfl rfl (by decide) (by decide) (wy := []) (fun _ _ _ q => ⟨q.1, q.2.1⟩) all0 (fun _ K => IW.keep K sf0 W0.inv) ?_
    intro v77 T77 h77 lo77 W77 K77 q77
    obtain ⟨r1_77, r2_77, r3_77, r4_77, P77_0, P77_1, P77_2, P77_3, P77_4, P77_5, P77_6, P77_7, P77_8, P77_9, P77_10, P77_11, rfl⟩ := q77.2.2
    show Gl _ _ _ _ _ _ _ _ [(.ref r1_77)]
    refine o_astore W77 (L' := #[.val (.int p0), .val (.int p1), .val (.int p2), .val (.int p3), .val (.int 3), .val (.ref r1_77), .unset, .unset, .unset, .unset, .unset, .unset]) (pc' := 16) (hb hy at_14) rfl rfl rfl ?_
    refine o_iloadN W77 (pc' := 17) (hb hy at_16) rfl rfl ?_
    refine o_static W77 (y := (⟨"com/example/sessn/sessn/log/LoggedSessionCurrentPinLaw", "query", "(I)Lcom/example/sessn/sessn/log/LoggedQuery;"⟩ : MethodName)) (w1 hw) (w2 hw) (w3 hw) (w4 hw) (by decide) (argsL := [(.int p2)]) (CtrN.back (Wd := 0) W77 (rm10 l Z a0 hw gCS gO2 gO3 p2 h77 W77.old SgCS NgCS SgO2_DEFAULTCAPACITY_EMPTY_ELEMENTDATA SgO3_EMPTY_LIST) (w4 hw) (w3 hw) (by decide) (by decide)) (by rw [hml]; rfl) (lenOf pd6 rfl) (S := []) rfl (by exact Nat.le_of_eq rfl) (pc' := 20) (hb hy at_17) rfl (cells' := 12) (slots' := 36) rfl rfl (by decide) (by decide) (wy := []) (fun _ _ _ q => ⟨q.1, q.2.1⟩) all0 (fun _ K => IW.keep K sf0 W77.inv) ?_
    intro v78 T78 h78 lo78 W78 K78 q78
    obtain ⟨r1_78, r2_78, r3_78, r4_78, P78_0, P78_1, P78_2, P78_3, P78_4, P78_5, P78_6, P78_7, P78_8, P78_9, P78_10, P78_11, rfl⟩ := q78.2.2
    show Gl _ _ _ _ _ _ _ _ [(.ref r1_78)]
    refine o_astore W78 (L' := #[.val (.int p0), .val (.int p1), .val (.int p2), .val (.int p3), .val (.int 3), .val (.ref r1_77), .val (.ref r1_78), .unset, .unset, .unset, .unset, .unset]) (pc' := 22) (hb hy at_20) rfl rfl rfl ?_
    refine o_iloadN W78 (pc' := 23) (hb hy at_22) rfl rfl ?_
    refine o_static W78 (y := (⟨"com/example/sessn/sessn/log/LoggedSessionCurrentPinLaw", "query", "(I)Lcom/example/sessn/sessn/log/LoggedQuery;"⟩ : MethodName)) (w1 hw) (w2 hw) (w3 hw) (w4 hw) (by decide) (argsL := [(.int p3)]) (CtrN.back (Wd := 0) W78 (rm10 l Z a0 hw gCS gO2 gO3 p3 h78 W78.old SgCS NgCS SgO2_DEFAULTCAPACITY_EMPTY_ELEMENTDATA SgO3_EMPTY_LIST) (w4 hw) (w3 hw) (by decide) (by decide)) (by rw [hml]; rfl) (lenOf pd6 rfl) (S := []) rfl (by exact Nat.le_of_eq rfl) (pc' := 26) (hb hy at_23) rfl (cells' := 18) (slots' := 54) rfl rfl (by decide) (by decide) (wy := []) (fun _ _ _ q => ⟨q.1, q.2.1⟩) all0 (fun _ K => IW.keep K sf0 W78.inv) ?_
    intro v79 T79 h79 lo79 W79 K79 q79
    obtain ⟨r1_79, r2_79, r3_79, r4_79, P79_0, P79_1, P79_2, P79_3, P79_4, P79_5, P79_6, P79_7, P79_8, P79_9, P79_10, P79_11, rfl⟩ := q79.2.2
    show Gl _ _ _ _ _ _ _ _ [(.ref r1_79)]
    refine o_astore W79 (L' := #[.val (.int p0), .val (.int p1), .val (.int p2), .val (.int p3), .val (.int 3), .val (.ref r1_77), .val (.ref r1_78), .val (.ref r1_79), .unset, .unset, .unset, .unset]) (pc' := 28) (hb hy at_26) rfl rfl rfl ?_
    refine o_new W79 (w38 hw) (w39 hw) (w40 hw) (fun _ E => IW.ext E W79.inv) (pc' := 31) (hb hy at_28) rfl (cells' := 19) (slots' := 57) rfl rfl (by decide) (by decide) ?_
    intro b80 T80 h80 W80 E80 ge80 gz80 gb80 A80 D80
    have Fb80_modCount : Fld Z h80 b80 "java/util/AbstractList" "modCount" "I" (.int 0) := D80 (Or.inl (w58 hw)) (ty := .int) (by decide)
    have Fb80_elementData : Fld Z h80 b80 "java/util/ArrayList" "elementData" "[Ljava/lang/Object;" .null := D80 (Or.inl (w61 hw)) (ty := (.array (.object "java/lang/Object"))) (by decide)
    have Fb80_size : Fld Z h80 b80 "java/util/ArrayList" "size" "I" (.int 0) := D80 (Or.inl (w95 hw)) (ty := .int) (by decide)
    refine o_dup W80 (pc' := 32) (hb hy at_31) rfl rfl ?_
    refine o_special W80 (y := (⟨"java/util/ArrayList", "<init>", "()V"⟩ : MethodName)) rfl (w41 hw) (w42 hw) (w43 hw) (by decide) (a := b80) (argsL := []) (CtrN.back (Wd := 1) W80 (rm3 l Z a0 hw gO2 b80 h80 W80.old A80 Fb80_modCount Fb80_elementData Fb80_size gz80 SgO2_DEFAULTCAPACITY_EMPTY_ELEMENTDATA) (w43 hw) (w40 hw) (by decide) (by decide)) (by rw [hml]; rfl) (lenOf pd1 rfl) (S := [(.ref b80)]) rfl (by exact Nat.le_of_eq rfl) (pc' := 35) (hb hy at_32) rfl (cells' := 19) (slots' := 57) rfl rfl (by decide) (by decide) (wy := [b80]) (fun _ _ _ q => ⟨q.1, q.2.1⟩) (allS ⟨gz80, (Or.inr gb80)⟩ all0) (fun _ K => IW.keep K (sfS (Safe.exa W80.al A80 (by decide) (by decide)) sf0) W80.inv) ?_
    intro v81 T81 h81 lo81 W81 K81 q81
    obtain ⟨P81_0, P81_1, P81_2, rfl⟩ := q81.2.2
    show Gl _ _ _ _ _ _ _ _ [(.ref b80)]
    refine o_astore W81 (L' := #[.val (.int p0), .val (.int p1), .val (.int p2), .val (.int p3), .val (.int 3), .val (.ref r1_77), .val (.ref r1_78), .val (.ref r1_79), .val (.ref b80), .unset, .unset, .unset]) (pc' := 37) (hb hy at_35) rfl rfl rfl ?_
    refine o_aload W81 (pc' := 39) (hb hy at_37) rfl rfl rfl ?_
    refine o_aload W81 (pc' := 41) (hb hy at_39) rfl rfl rfl ?_
    have c82 := (A80.keep K81)
    have c83 := ((((P77_3.keep K78).keep K79).ext E80).keep K81)
    refine o_virtual W81 (y := (⟨"java/util/ArrayList", "add", "(Ljava/lang/Object;)Z"⟩ : MethodName)) (z := (⟨"java/util/ArrayList", "add", "(Ljava/lang/Object;)Z"⟩ : MethodName)) (w108 hw) (w109 hw) (o_nf W81 rfl (w111 hw)) (w111 hw) (w110 hw) (by decide) c82 (argsL := [(.ref r1_77)]) (CtrN.back (Wd := 0) W81 (rm15 l Z a0 hw gO2 k_gO2 b80 r1_77 h81 W81.old P81_0 c82 gz80 P81_1 P81_2 VgO2 SgO2_DEFAULTCAPACITY_EMPTY_ELEMENTDATA c83) (w112 hw) (w40 hw) (by decide) (by decide)) (by rw [hml]; rfl) (lenOf pd11 rfl) (S := []) rfl (by exact Nat.le_of_eq rfl) (pc' := 44) (hb hy at_41) rfl (cells' := 20) (slots' := 67) rfl rfl (by decide) (by decide) (wy := [b80]) (fun _ _ _ q => ⟨q.1, q.2.1⟩) (allS ⟨gz80, (Or.inr gb80)⟩ all0) (fun _ K => IW.keep K (sfS (Safe.exa W81.al c82 (by decide) (by decide)) sf0) W81.inv) ?_
    intro v84 T84 h84 lo84 W84 K84 q84
    obtain ⟨r1_84, r2_84, P84_0, P84_1, P84_2, P84_3, P84_4, P84_5, P84_6, rfl⟩ := q84.2.2
    show Gl _ _ _ _ _ _ _ _ [(.int 1)]
    refine o_pop W84 (pc' := 45) (hb hy at_44) rfl rfl ?_
    refine o_iload W84 (pc' := 47) (hb hy at_45) rfl rfl ?_
    refine o_iconst W84 (v := 2) (pc' := 48) (hb hy at_47) rfl rfl ?_
    refine o_icmpN W84 (pc' := 51) (hb hy at_48) (XT.ii_lt_f (by decide)) rfl ?_
    refine o_aload W84 (pc' := 53) (hb hy at_51) rfl rfl rfl ?_
    refine o_aload W84 (pc' := 55) (hb hy at_53) rfl rfl rfl ?_
    have c85 := (c82.keep K84)
    have c86 := ((((P78_3.keep K79).ext E80).keep K81).keep K84)
    refine o_virtual W84 (y := (⟨"java/util/ArrayList", "add", "(Ljava/lang/Object;)Z"⟩ : MethodName)) (z := (⟨"java/util/ArrayList", "add", "(Ljava/lang/Object;)Z"⟩ : MethodName)) (w108 hw) (w109 hw) (o_nf W84 rfl (w111 hw)) (w111 hw) (w110 hw) (by decide) c85 (argsL := [(.ref r1_78)]) (CtrN.back (Wd := 0) W84 (rm35 l Z a0 hw b80 r1_78 r1_84 r2_84 r1_77 h84 W84.old P84_1 c85 gz80 P84_2 P84_3 P84_4 P84_6 P84_5 c86 (Nat.le_trans W81.zs P84_0)) (w112 hw) (w40 hw) (by decide) (by decide)) (by rw [hml]; rfl) (lenOf pd11 rfl) (S := []) rfl (by exact Nat.le_of_eq rfl) (pc' := 58) (hb hy at_55) rfl (cells' := 20) (slots' := 67) rfl rfl (by decide) (by decide) (wy := [b80, r1_84]) (fun _ _ _ q => ⟨q.1, q.2.1⟩) (allS ⟨gz80, (Or.inr gb80)⟩ (allS ⟨(Nat.le_trans W81.zs P84_0), (Or.inr (Nat.le_trans W81.keep.1 P84_0))⟩ all0)) (fun _ K => IW.keep K (sfS (Safe.exa W84.al c85 (by decide) (by decide)) (sfS (Safe.arv W84.al P84_4 (by decide)) sf0)) W84.inv) ?_
    intro v87 T87 h87 lo87 W87 K87 q87
    obtain ⟨P87_0, P87_1, P87_2, P87_3, rfl⟩ := q87.2.2
    show Gl _ _ _ _ _ _ _ _ [(.int 1)]
    refine o_pop W87 (pc' := 59) (hb hy at_58) rfl rfl ?_
    refine o_iload W87 (pc' := 61) (hb hy at_59) rfl rfl ?_
    refine o_iconst W87 (v := 3) (pc' := 62) (hb hy at_61) rfl rfl ?_
    refine o_icmpN W87 (pc' := 65) (hb hy at_62) (XT.ii_lt_f (by decide)) rfl ?_
    refine o_aload W87 (pc' := 67) (hb hy at_65) rfl rfl rfl ?_
    refine o_aload W87 (pc' := 69) (hb hy at_67) rfl rfl rfl ?_
    have c88 := (c85.keep K87)
    have c89 := (P84_6.keep K87)
    have c90 := ((((P79_3.ext E80).keep K81).keep K84).keep K87)
    refine o_virtual W87 (y := (⟨"java/util/ArrayList", "add", "(Ljava/lang/Object;)Z"⟩ : MethodName)) (z := (⟨"java/util/ArrayList", "add", "(Ljava/lang/Object;)Z"⟩ : MethodName)) (w108 hw) (w109 hw) (o_nf W87 rfl (w111 hw)) (w111 hw) (w110 hw) (by decide) c88 (argsL := [(.ref r1_79)]) (CtrN.back (Wd := 0) W87 (rm52 l Z a0 hw b80 r1_79 r1_84 r2_84 r1_77 r1_78 h87 W87.old P87_0 c88 gz80 P87_1 P87_2 P87_3 c89 P84_5 c90 (Nat.le_trans W81.zs P84_0)) (w112 hw) (w40 hw) (by decide) (by decide)) (by rw [hml]; rfl) (lenOf pd11 rfl) (S := []) rfl (by exact Nat.le_of_eq rfl) (pc' := 72) (hb hy at_69) rfl (cells' := 20) (slots' := 67) rfl rfl (by decide) (by decide) (wy := [b80, r1_84]) (fun _ _ _ q => ⟨q.1, q.2.1⟩) (allS ⟨gz80, (Or.inr gb80)⟩ (allS ⟨(Nat.le_trans W81.zs P84_0), (Or.inr (Nat.le_trans W81.keep.1 P84_0))⟩ all0)) (fun _ K => IW.keep K (sfS (Safe.exa W87.al c88 (by decide) (by decide)) (sfS (Safe.arv W87.al P87_3 (by decide)) sf0)) W87.inv) ?_
    intro v91 T91 h91 lo91 W91 K91 q91
    obtain ⟨P91_0, P91_1, P91_2, P91_3, rfl⟩ := q91.2.2
    show Gl _ _ _ _ _ _ _ _ [(.int 1)]
    refine o_pop W91 (pc' := 73) (hb hy at_72) rfl rfl ?_
    refine o_new W91 (w137 hw) (w138 hw) (w139 hw) (fun _ E => IW.ext E W91.inv) (pc' := 76) (hb hy at_73) rfl (cells' := 21) (slots' := 69) rfl rfl (by decide) (by decide) ?_
    intro b92 T92 h92 W92 E92 ge92 gz92 gb92 A92 D92
    have Fb92_id : Fld Z h92 b92 "com/example/sessn/sessn/log/LoggedSession" "id" "Ljava/lang/String;" .null := D92 (Or.inr (w217 hw)) (ty := (.object "java/lang/String")) (by decide)
    have Fb92_queries : Fld Z h92 b92 "com/example/sessn/sessn/log/LoggedSession" "queries" "Ljava/util/List;" .null := D92 (Or.inr (w219 hw)) (ty := (.object "java/util/List")) (by decide)
    refine o_dup W92 (pc' := 77) (hb hy at_76) rfl rfl ?_
    refine o_ldcO W92 (w140 hw) (own_wS hw) (own_EL hw) (pc' := 79) (hb hy at_77) rfl (n := 8) (by decide) (by decide) (cells' := 23) (slots' := 81) rfl rfl (by decide) (by decide) ?_
    intro s93 T93 h93 V93 W93 E93 C93
    refine o_aload W93 (pc' := 81) (hb hy at_79) rfl rfl rfl ?_
    have c94 := ((P91_2.ext E92).ext E93)
    have c95 := ((P91_1.ext E92).ext E93)
    have c96 := ((P91_3.ext E92).ext E93)
    have c97 := (Fb92_id.ext E93)
    have c98 := (Fb92_queries.ext E93)
    have c99 := (((c88.keep K91).ext E92).ext E93)
    have c100 := (((c89.keep K91).ext E92).ext E93)
    have c101 := (((c90.keep K91).ext E92).ext E93)
    have c102 := ((((c86.keep K87).keep K91).ext E92).ext E93)
    have c103 := (((((c83.keep K84).keep K87).keep K91).ext E92).ext E93)
    have c104 := (A92.ext E93)
    refine o_special W93 (y := (⟨"com/example/sessn/sessn/log/LoggedSession", "<init>", "(Ljava/lang/String;Ljava/util/List;)V"⟩ : MethodName)) rfl (w143 hw) (w144 hw) (w145 hw) (by decide) (a := b92) (argsL := [(.ref s93), (.ref b80)]) (CtrN.back (Wd := 1) W93 (rm63 l Z a0 hw gMO b92 s93 b80 r1_84 r2_84 r1_77 r1_78 r1_79 h93 W93.old c99 c94 c95 c100 MgMO c96 c101 c102 c103 c104 c97 gz92 c98) (w145 hw) (w139 hw) (by decide) (by decide)) (by rw [hml]; rfl) (lenOf pd17 rfl) (S := [(.ref b92)]) rfl (by exact Nat.le_of_eq rfl) (pc' := 84) (hb hy at_81) rfl (cells' := 26) (slots' := 89) rfl rfl (by decide) (by decide) (wy := [b92]) (fun _ _ _ q => ⟨q.1, q.2.1⟩) (allS ⟨gz92, (Or.inr gb92)⟩ all0) (fun _ K => IW.keep K (sfS (Safe.exa W93.al c104 (by decide) (by decide)) sf0) W93.inv) ?_
    intro v105 T105 h105 lo105 W105 K105 q105
    obtain ⟨r1_105, r2_105, r3_105, P105_0, P105_1, P105_2, P105_3, P105_4, P105_5, P105_6, P105_7, P105_8, P105_9, rfl⟩ := q105.2.2
    show Gl _ _ _ _ _ _ _ _ [(.ref b92)]
    refine o_astore W105 (L' := #[.val (.int p0), .val (.int p1), .val (.int p2), .val (.int p3), .val (.int 3), .val (.ref r1_77), .val (.ref r1_78), .val (.ref r1_79), .val (.ref b80), .val (.ref b92), .unset, .unset]) (pc' := 86) (hb hy at_84) rfl rfl rfl ?_
    refine o_aload W105 (pc' := 88) (hb hy at_86) rfl rfl rfl ?_
    refine o_aload W105 (pc' := 90) (hb hy at_88) rfl rfl rfl ?_
    have c106 := (c88.keep K91)
    have c107 := (((P91_0.ext E92).ext E93).keep K105 (ninS (own_ne c106.lt ge92) nin0))
    have c108 := (c95.keep K105 (ninS (own_ne c106.lt ge92) nin0))
    have c109 := (c94.keep K105 (ninS (own_ne c106.lt ge92) nin0))
    have c110 := (c96.keep K105 (ninS (own_ne P91_3.lt ge92) nin0))
    have c111 := (c99.keep K105)
    have c112 := (c100.keep K105)
    have c113 := (c103.keep K105)
    refine o_virtual W105 (y := (⟨"java/util/ArrayList", "add", "(Ljava/lang/Object;)Z"⟩ : MethodName)) (z := (⟨"java/util/ArrayList", "add", "(Ljava/lang/Object;)Z"⟩ : MethodName)) (w108 hw) (w109 hw) (o_nf W105 rfl (w111 hw)) (w111 hw) (w110 hw) (by decide) c111 (argsL := [(.ref r1_77)]) (CtrN.back (Wd := 0) W105 (rm65 l Z a0 hw b80 r1_77 r1_84 r2_84 r1_78 r1_79 h105 W105.old c107 c111 gz80 c108 c109 c110 c112 P84_5 c113 (Nat.le_trans W81.zs P84_0)) (w112 hw) (w40 hw) (by decide) (by decide)) (by rw [hml]; rfl) (lenOf pd11 rfl) (S := []) rfl (by exact Nat.le_of_eq rfl) (pc' := 93) (hb hy at_90) rfl (cells' := 26) (slots' := 89) rfl rfl (by decide) (by decide) (wy := [b80, r1_84]) (fun _ _ _ q => ⟨q.1, q.2.1⟩) (allS ⟨gz80, (Or.inr gb80)⟩ (allS ⟨(Nat.le_trans W81.zs P84_0), (Or.inr (Nat.le_trans W81.keep.1 P84_0))⟩ all0)) (fun _ K => IW.keep K (sfS (Safe.exa W105.al c111 (by decide) (by decide)) (sfS (Safe.arv W105.al c110 (by decide)) sf0)) W105.inv) ?_
    intro v114 T114 h114 lo114 W114 K114 q114
    obtain ⟨P114_0, P114_1, P114_2, P114_3, rfl⟩ := q114.2.2
    show Gl _ _ _ _ _ _ _ _ [(.int 1)]
    refine o_pop W114 (pc' := 94) (hb hy at_93) rfl rfl ?_
    refine o_iload W114 (pc' := 96) (hb hy at_94) rfl rfl ?_
    refine o_iconst W114 (v := 1) (pc' := 97) (hb hy at_96) rfl rfl ?_
    refine o_icmpY W114 (pc' := 105) (hb hy at_97) (XT.ii_ne_t (by decide)) (by decide) rfl ?_
    refine o_iload W114 (pc' := 107) (hb hy at_105) rfl rfl ?_
    refine o_iconst W114 (v := 2) (pc' := 108) (hb hy at_107) rfl rfl ?_
    refine o_icmpY W114 (pc' := 116) (hb hy at_108) (XT.ii_ne_t (by decide)) (by decide) rfl ?_
    refine o_aload W114 (pc' := 118) (hb hy at_116) rfl rfl rfl ?_
    refine o_astore W114 (L' := #[.val (.int p0), .val (.int p1), .val (.int p2), .val (.int p3), .val (.int 3), .val (.ref r1_77), .val (.ref r1_78), .val (.ref r1_79), .val (.ref b80), .val (.ref b92), .val (.ref r1_79), .unset]) (pc' := 120) (hb hy at_118) rfl rfl rfl ?_
    refine o_aload W114 (pc' := 122) (hb hy at_120) rfl rfl rfl ?_
    have c115 := (P105_3.keep K114 (ninS (own_ne' c106.lt ge92) (ninS (own_ne' P91_3.lt ge92) nin0)))
    have c116 := (P105_5.keep K114 (ninS (own_ne' c99.lt P105_0) (ninS (own_ne' c96.lt P105_0) nin0)))
    have c117 := (P105_7.keep K114 (ninS (own_ne' c99.lt P105_1) (ninS (own_ne' c96.lt P105_1) nin0)))
    have c118 := (P105_4.keep K114)
    have c119 := ((c101.keep K105).keep K114)
    have c120 := ((c104.keep K105).keep K114)
    refine o_virtual W114 (y := (⟨"com/example/sessn/sessn/log/LoggedSession", "current", "()Lcom/example/sessn/sessn/log/LoggedQuery;"⟩ : MethodName)) (z := (⟨"com/example/sessn/sessn/log/LoggedSession", "current", "()Lcom/example/sessn/sessn/log/LoggedQuery;"⟩ : MethodName)) (w220 hw) (w221 hw) (o_nf W114 rfl (w223 hw)) (w223 hw) (w222 hw) (by decide) c120 (argsL := []) (CtrN.back (Wd := 0) W114 (rm68 l Z a0 hw b92 r1_105 r2_105 r3_105 r1_77 r1_78 r1_79 h114 W114.old c115 c118 c116 c117 c119) (w224 hw) (w139 hw) (by decide) (by decide)) (by rw [hml]; rfl) (lenOf pd20 rfl) (S := []) rfl (by exact Nat.le_of_eq rfl) (pc' := 125) (hb hy at_122) rfl (cells' := 26) (slots' := 89) rfl rfl (by decide) (by decide) (wy := []) (fun _ _ _ q => ⟨q.1, q.2.1⟩) all0 (fun _ K => IW.keep K sf0 W114.inv) ?_
    intro v121 T121 h121 lo121 W121 K121 q121
    obtain rfl := q121.2.2
    show Gl _ _ _ _ _ _ _ _ [(.ref r1_79)]
    refine o_astore W121 (L' := #[.val (.int p0), .val (.int p1), .val (.int p2), .val (.int p3), .val (.int 3), .val (.ref r1_77), .val (.ref r1_78), .val (.ref r1_79), .val (.ref b80), .val (.ref b92), .val (.ref r1_79), .val (.ref r1_79)]) (pc' := 127) (hb hy at_125) rfl rfl rfl ?_
    refine o_aload W121 (pc' := 129) (hb hy at_127) rfl rfl rfl ?_
    refine o_aload W121 (pc' := 131) (hb hy at_129) rfl rfl rfl ?_
    refine o_acmpN W121 (pc' := 134) (hb hy at_131) rfl rfl (XT.aa_ne_f rfl) rfl ?_
    refine o_iconst W121 (v := 1) (pc' := 135) (hb hy at_134) rfl rfl ?_
    refine o_goto W121 (pc' := 139) (hb hy at_135) (by decide) rfl ?_
    exact o_retNW W121 (own_EL hw) hlk (t := .boolean) hret (by simp) (z' := (1 : Int32)) (by decide) (hb hy at_139) (by decide) (by decide) rfl
theorem comes_1 {Post : Tables → Env → Array Value → State → Outcome → State → Prop} (hpost : ∀ tb e args s v u, (limb_1_1.after args s (.returned v) u = true ∧ limb_1_2.after args s (.returned v) u = true ∧ True) → Jvm.ReturnedEndW s (.returned v) u (Jvm.fieldLocs frame_1_writes args s ++ Jvm.arrayLocs frame_1_arrays args s ++ Jvm.staticLocs frame_1_statics s) 64 1280 → Post tb e args s (.returned v) u) :
    ArmFor flags0 classFile x code maxLocals ret World_1 tables_1 room_1 Calls_1 rest_1 Pre_1 Post := by
  intro l hfl _ _ p e ha hc hk s m args below hf hA hF happ hP
  obtain ⟨hcalls, hrest, hpre⟩ := hP
  obtain ⟨-, -, -, hnamed, -, -, -, hat⟩ := (Spec.applies_iff hf).mp happ
  obtain ⟨hg, hn⟩ := and_e (Cond.before_iff.mp (show (Jvm.Cond.and given_1 narrow_1).before args s = true from hpre))
  obtain ⟨g1, g2⟩ := and_e hg
  obtain ⟨g3, g4⟩ := and_e g2
  obtain ⟨g5, g6⟩ := and_e g4
  obtain ⟨g7, g8⟩ := and_e g6
  obtain ⟨w0, w1, w2, w3, rfl⟩ : ∃ w0 w1 w2 w3 : Value, args = #[w0, w1, w2, w3] := by
    have hs : args.size = 4 := by simpa [Cond.value, given_1] using g1
    obtain ⟨L⟩ := args
    match L, hs with
    | [w0, w1, w2, w3], _ => exact ⟨w0, w1, w2, w3, rfl⟩
  obtain ⟨i0, ei0⟩ := is_v g3
  obtain rfl : w0 = (.int i0) := Option.some.inj ei0
  obtain ⟨i1, ei1⟩ := is_v g5
  obtain rfl : w1 = (.int i1) := Option.some.inj ei1
  obtain ⟨i2, ei2⟩ := is_v g7
  obtain rfl : w2 = (.int i2) := Option.some.inj ei2
  obtain ⟨i3, ei3⟩ := is_v g8
  obtain rfl : w3 = (.int i3) := Option.some.inj ei3
  have hw := fun d (hd : d ∈ tables_1) => atoms_spec (ws := Jvm.Cond.code x code maxLocals ret :: tables_1) hat d (List.mem_cons_of_mem _ hd)
  have hfit : Fit s := fun {y c} hc i hi => by
    obtain ⟨ha, rfl⟩ := Array.getElem?_eq_some_iff.mp hc
    have q := List.all_eq_true.mp ((Array.all_eq_true_iff_forall_mem.mp hF) _ (Array.getElem_mem ha)) i (List.mem_range.mpr hi)
    simpa [Array.getElem?_eq_getElem hi] using q
  obtain ⟨hsets, hown0⟩ := atoms_of _ (rest_1_c_eq ▸ (show rest_1_c.before _ s = true from hrest))
  obtain ⟨gCS, eCS⟩ := is_v (Cond.before_iff.mp (hsets _ (List.mem_of_getElem? (i := 1) rfl)))
  have SgCS := Sta.start eCS (Or.inl (hsets _ (List.mem_of_getElem? (i := 0) rfl)))
  have NgCS : ¬ (gCS = (0 : Int32)) := gotF (own_eqS eCS) (not_v (Cond.before_iff.mp (hsets _ (List.mem_of_getElem? (i := 2) rfl))))
  obtain ⟨gO1, evgO1⟩ := arr_v (Cond.before_iff.mp (hsets _ (List.mem_of_getElem? (i := 12) rfl)))
  have SgO1_EMPTY_ELEMENTDATA := Sta.start evgO1 (Or.inl (hsets _ (List.mem_of_getElem? (i := 10) rfl)))
  have XgO1 := Exa.start evgO1 (Cond.before_iff.mp (hsets _ (List.mem_of_getElem? (i := 13) rfl)))
  obtain ⟨gO2, evgO2⟩ := arr_v (Cond.before_iff.mp (hsets _ (List.mem_of_getElem? (i := 15) rfl)))
  have SgO2_DEFAULTCAPACITY_EMPTY_ELEMENTDATA := Sta.start evgO2 (Or.inr ⟨(w40 hw), (hsets _ (List.mem_of_getElem? (i := 11) rfl))⟩)
  have XgO2 := Exa.start evgO2 (Cond.before_iff.mp (hsets _ (List.mem_of_getElem? (i := 16) rfl)))
  obtain ⟨gO3, evgO3⟩ := exa_v (Cond.before_iff.mp (hsets _ (List.mem_of_getElem? (i := 20) rfl)))
  have SgO3_EMPTY_LIST := Sta.start evgO3 (Or.inl (hsets _ (List.mem_of_getElem? (i := 19) rfl)))
  have XgO3 := Exa.start evgO3 (Cond.before_iff.mp (hsets _ (List.mem_of_getElem? (i := 20) rfl)))
  obtain ⟨gO4, evgO4⟩ := arr_v (Cond.before_iff.mp (hsets _ (List.mem_of_getElem? (i := 21) rfl)))
  have FgO3_elements := Fld.start ((fld_at evgO3).symm.trans evgO4)
  have XgO4 := Exa.start evgO4 (Cond.before_iff.mp (hsets _ (List.mem_of_getElem? (i := 22) rfl)))
  have FgO3_allowNulls := own_fI evgO3 (Cond.before_iff.mp (hsets _ (List.mem_of_getElem? (i := 24) rfl)))
  obtain ⟨gO5, evgO5⟩ := exa_v (Cond.before_iff.mp (hsets _ (List.mem_of_getElem? (i := 27) rfl)))
  have SgO5_EMPTY := Sta.start evgO5 (Or.inl (hsets _ (List.mem_of_getElem? (i := 26) rfl)))
  have XgO5 := Exa.start evgO5 (Cond.before_iff.mp (hsets _ (List.mem_of_getElem? (i := 27) rfl)))
  have S__assertionsDisabled := Sta.start (eqv_i (Term.int_eval _) (Cond.before_iff.mp (hsets _ (List.mem_of_getElem? (i := 30) rfl)))) (Or.inl (hsets _ (List.mem_of_getElem? (i := 29) rfl)))
  obtain ⟨cl_gO1, AgO1⟩ := Arr.start evgO1 (Cond.before_iff.mp (hsets _ (List.mem_of_getElem? (i := 12) rfl)))
  obtain ⟨zgO1, ygO1⟩ := own_len evgO1 AgO1 (Cond.before_iff.mp (hsets _ (List.mem_of_getElem? (i := 14) rfl)))
  have VgO1 : Arv s s.heap gO1 cl_gO1.cls (.object "java/lang/Object") (0 : Int32) [] .null := Arv.start hfit AgO1 zgO1 ygO1 (by decide) (by decide) trivial
  obtain ⟨cl_gO2, AgO2⟩ := Arr.start evgO2 (Cond.before_iff.mp (hsets _ (List.mem_of_getElem? (i := 15) rfl)))
  obtain ⟨zgO2, ygO2⟩ := own_len evgO2 AgO2 (Cond.before_iff.mp (hsets _ (List.mem_of_getElem? (i := 17) rfl)))
  have VgO2 : Arv s s.heap gO2 cl_gO2.cls (.object "java/lang/Object") (0 : Int32) [] .null := Arv.start hfit AgO2 zgO2 ygO2 (by decide) (by decide) trivial
  obtain ⟨cl_gO4, AgO4⟩ := Arr.start evgO4 (Cond.before_iff.mp (hsets _ (List.mem_of_getElem? (i := 21) rfl)))
  obtain ⟨zgO4, ygO4⟩ := own_len evgO4 AgO4 (Cond.before_iff.mp (hsets _ (List.mem_of_getElem? (i := 23) rfl)))
  have VgO4 : Arv s s.heap gO4 cl_gO4.cls (.object "java/lang/Object") (0 : Int32) [] .null := Arv.start hfit AgO4 zgO4 ygO4 (by decide) (by decide) trivial
  obtain ⟨gc_, gk_, gMO, m1_, m2_, m3_, -⟩ := hcalls.1
  have MgMO : MirW s "[Ljava/lang/Object;" gMO := ⟨_, _, m1_, m2_, m3_⟩
  have hCH : CHv s consts_1 s.vm s.heap := fun _ hp => by cases hp
  obtain ⟨n, o, h1, h2, h3, _, L, rfl, ⟨N, -, rfl⟩, -, hq⟩ := rm_law l s _ hw gCS gMO gO2 gO3 gO5 cl_gO2.cls i0 i1 i2 i3 s.heap (Old.start s) SgCS NgCS SgO2_DEFAULTCAPACITY_EMPTY_ELEMENTDATA SgO3_EMPTY_LIST VgO2 MgMO SgO5_EMPTY XgO5 p e ha hc hk s m _ below hf ((Spec.applies_iff_loose hf).mp happ).1 ⟨rfl, State.Warmed39.refl s, rfl, hCH⟩ trivial
  refine ⟨n, _, h1, h2, h3, hpost _ _ _ _ _ _ ⟨Cond.after_iff.mpr rfl, Cond.after_iff.mpr (eq_i res_at (Term.int_eval (1)) rfl), trivial⟩ ⟨hq.1, hq.2.1, hq.2.2.1, (hq.2.2.2.sift fun y hy => Or.inr (N y hy)).mono (by decide) (by decide)⟩⟩
theorem main_1_1 : Claimed_1_1 := comes_1 fun _ _ _ _ _ _ h hF => ⟨h.1, hF⟩
theorem main_1_2 : Claimed_1_2 := comes_1 fun _ _ _ _ _ _ h hF => ⟨h.2.1, hF⟩
end Jvm.Pilot.@@N@@
namespace Jvm.Pilot.@@N@@
open Jvm Jvm.ClassFile Sem Op Lib Jvm.Free Jvm.Stand Jvm.Pilot.@@N@@.Jvm.D
/-! MADE BY PROGRAM (witnessworld.py) out of the Statement's table words and the real class files: 41 classes; the members and pool entries that the words name. The judged class is class 1, her method 1. -/
namespace start1
open Jvm.ClassFile
def u (s : String) : CpInfo := .utf8 (stringToUtf16 s)
/-- a pool by its gaps: so many unusable entries, then the entry; so many at the end -/
def gap : Nat → List CpInfo → List CpInfo
  | 0, r => r
  | n + 1, r => .unusable :: gap n r
def poolList (es : List (Nat × CpInfo)) (last : Nat) : List CpInfo := es.foldr (fun e r => gap e.1 (e.2 :: r)) (gap last [])
def pool (es : List (Nat × CpInfo)) (last : Nat) : Array CpInfo := ⟨poolList es last⟩
def fileOf (pool : Array CpInfo) (this : Nat) (attrs : Array Attribute := #[]) (ms : Array MethodInfo := #[]) (fl : Nat := 33) (sup : Nat := 0) (ifs : Array Nat := #[]) (fds : Array FieldInfo := #[]) : ClassFile where
  minorVersion := 0
  majorVersion := 65
  constantPool := pool
  accessFlags := fl
  thisClass := this
  superClass := sup
  interfaces := ifs
  fields := fds
  methods := ms
  attributes := attrs
def plain (name : String) (sup : Option ClassId) : Class where
  name := name
  kind := .ordinary
  loader := none
  accessFlags := 33
  super := sup
  interfaces := #[]
  cf := none
  fields := #[]
  methods := #[]
  instanceTypes := #[]
  staticTypes := #[]
  resolved := #[]
  callSites := []
  init := .initialized
  statics := none
  mirror := none

def pool0 : Array CpInfo := pool [(5, u "<init>"), (0, u "()V"), (1, .class_ 10), (1, u "java/lang/Object"), (0, u "getClass"), (0, u "()Ljava/lang/Class;")] 111

def k0c0 : Code := { maxStack := 0, maxLocals := 1, code := object_method_1_code, exceptionTable := #[], attributes := #[] }
def k0m0 : Method := { name := "<init>", desc := "()V", sig := { parameters := [], returnType := none }, accessFlags := 1, code := some k0c0 }
def k0m1 : Method := { name := "getClass", desc := "()Ljava/lang/Class;", sig := { parameters := [], returnType := some (.object "java/lang/Class") }, accessFlags := 273, code := none }
/-- java/lang/Object -/
def k0 : Class := { plain "java/lang/Object" none with
  accessFlags := 33
  interfaces := #[]
  cf := some (fileOf pool0 8 #[] #[⟨1, 5, 6, #[]⟩, ⟨273, 11, 12, #[]⟩] 33 0 #[] #[])
  fields := #[]
  methods := #[k0m0, k0m1]
  instanceTypes := #[]
  staticTypes := #[]
  resolved := Array.replicate 124 none
  statics := none }

def pool1 : Array CpInfo := pool [(2, .class_ 4), (0, .nameAndType 5 6), (0, u "java/lang/Object"), (0, u "<init>"), (0, u "()V"), (0, .integer 2147483647), (0, .methodref 9 10), (0, .class_ 11), (0, .nameAndType 12 13), (0, u "com/example/sessn/sessn/log/LoggedSessionCurrentPinLaw"), (0, u "query"), (0, u "(I)Lcom/example/sessn/sessn/log/LoggedQuery;"), (0, .class_ 15), (0, u "java/util/ArrayList"), (0, .methodref 14 3), (0, .methodref 14 18), (0, .nameAndType 19 20), (0, u "add"), (0, u "(Ljava/lang/Object;)Z"), (0, .class_ 22), (0, u "com/example/sessn/sessn/log/LoggedSession"), (0, .string 24), (0, u "s1"), (0, .methodref 21 26), (0, .nameAndType 5 27), (0, u "(Ljava/lang/String;Ljava/util/List;)V"), (0, .methodref 21 29), (0, .nameAndType 30 31), (0, u "current"), (0, u "()Lcom/example/sessn/sessn/log/LoggedQuery;"), (0, .class_ 33), (0, u "com/example/sessn/sessn/log/LoggedQuery"), (0, .class_ 35), (0, u "java/lang/String"), (0, .methodref 34 37), (0, .nameAndType 5 38), (0, u "([C)V"), (0, .methodref 32 40), (0, .nameAndType 5 41), (0, u "(Ljava/lang/String;Ljava/time/LocalDateTime;Ljava/util/List;Ljava/util/List;)V"), (2, u "law"), (0, u "(IIII)Z")] 3

def k1m0 : Method := { name := "<init>", desc := "()V", sig := { parameters := [], returnType := none }, accessFlags := 1, code := none }
def k1c1 : Code := { maxStack := 4, maxLocals := 12, code := code, exceptionTable := #[], attributes := #[] }
def k1m1 : Method := { name := "law", desc := "(IIII)Z", sig := { parameters := [.int, .int, .int, .int], returnType := some .boolean }, accessFlags := 9, code := some k1c1 }
def k1c2 : Code := { maxStack := 7, maxLocals := 2, code := method_3_code, exceptionTable := #[], attributes := #[] }
def k1m2 : Method := { name := "query", desc := "(I)Lcom/example/sessn/sessn/log/LoggedQuery;", sig := { parameters := [.int], returnType := some (.object "com/example/sessn/sessn/log/LoggedQuery") }, accessFlags := 10, code := some k1c2 }
/-- com/example/sessn/sessn/log/LoggedSessionCurrentPinLaw -/
def k1 : Class := { plain "com/example/sessn/sessn/log/LoggedSessionCurrentPinLaw" (some 0) with
  accessFlags := 49
  interfaces := #[]
  cf := some (fileOf pool1 9 #[] #[⟨1, 5, 6, #[]⟩, ⟨9, 44, 45, #[]⟩, ⟨10, 12, 13, #[]⟩] 49 2 #[] #[])
  fields := #[]
  methods := #[k1m0, k1m1, k1m2]
  instanceTypes := #[]
  staticTypes := #[]
  resolved := Array.replicate 49 none
  statics := none }

def pool2 : Array CpInfo := pool [(1, .methodref 2 3), (0, .class_ 4), (0, .nameAndType 5 6), (0, u "java/lang/Object"), (0, u "<init>"), (0, u "()V"), (0, .class_ 8), (0, u "java/lang/Record")] 13

def k2c0 : Code := { maxStack := 1, maxLocals := 1, code := jdk_30_method_1_code, exceptionTable := #[], attributes := #[] }
def k2m0 : Method := { name := "<init>", desc := "()V", sig := { parameters := [], returnType := none }, accessFlags := 4, code := some k2c0 }
/-- java/lang/Record -/
def k2 : Class := { plain "java/lang/Record" (some 0) with
  accessFlags := 1057
  interfaces := #[]
  cf := some (fileOf pool2 7 #[] #[⟨4, 5, 6, #[]⟩] 1057 2 #[] #[])
  fields := #[]
  methods := #[k2m0]
  instanceTypes := #[]
  staticTypes := #[]
  resolved := Array.replicate 22 none
  statics := none }

def pool3 : Array CpInfo := pool [(1, .methodref 2 3), (0, .class_ 4), (0, .nameAndType 5 6), (0, u "java/lang/Record"), (0, u "<init>"), (0, u "()V"), (0, .interfaceMethodref 8 9), (0, .class_ 10), (0, .nameAndType 11 12), (0, u "java/util/List"), (0, u "copyOf"), (0, u "(Ljava/util/Collection;)Ljava/util/List;"), (0, .fieldref 14 15), (0, .class_ 16), (0, .nameAndType 17 18), (0, u "com/example/sessn/sessn/log/LoggedQuery"), (0, u "text"), (0, u "Ljava/lang/String;"), (0, .fieldref 14 20), (0, .nameAndType 21 22), (0, u "time"), (0, u "Ljava/time/LocalDateTime;"), (0, .fieldref 14 24), (0, .nameAndType 25 26), (0, u "results"), (0, u "Ljava/util/List;"), (0, .fieldref 14 28), (0, .nameAndType 29 26), (0, u "clicks"), (15, u "(Ljava/lang/String;Ljava/time/LocalDateTime;Ljava/util/List;Ljava/util/List;)V")] 34

def k3c0 : Code := { maxStack := 2, maxLocals := 5, code := prog_19_method_1_code, exceptionTable := #[], attributes := #[] }
def k3m0 : Method := { name := "<init>", desc := "(Ljava/lang/String;Ljava/time/LocalDateTime;Ljava/util/List;Ljava/util/List;)V", sig := { parameters := [(.object "java/lang/String"), (.object "java/time/LocalDateTime"), (.object "java/util/List"), (.object "java/util/List")], returnType := none }, accessFlags := 1, code := some k3c0 }
/-- com/example/sessn/sessn/log/LoggedQuery -/
def k3 : Class := { plain "com/example/sessn/sessn/log/LoggedQuery" (some 2) with
  accessFlags := 49
  interfaces := #[]
  cf := some (fileOf pool3 14 #[] #[⟨1, 5, 45, #[]⟩] 49 2 #[] #[⟨18, 17, 18, #[]⟩, ⟨18, 21, 22, #[]⟩, ⟨18, 25, 26, #[]⟩, ⟨18, 29, 26, #[]⟩])
  fields := #[⟨"text", (.object "java/lang/String"), 18, 0, 0⟩, ⟨"time", (.object "java/time/LocalDateTime"), 18, 1, 0⟩, ⟨"results", (.object "java/util/List"), 18, 2, 0⟩, ⟨"clicks", (.object "java/util/List"), 18, 3, 0⟩]
  methods := #[k3m0]
  instanceTypes := #[(.object "java/lang/String"), (.object "java/time/LocalDateTime"), (.object "java/util/List"), (.object "java/util/List")]
  staticTypes := #[]
  resolved := Array.replicate 80 none
  statics := none }

def pool4 : Array CpInfo := pool [(1, .class_ 2), (0, u "java/io/Serializable"), (0, .class_ 4), (0, u "java/lang/Object")] 2

/-- java/io/Serializable -/
def k4 : Class := { plain "java/io/Serializable" (some 0) with
  accessFlags := 1537
  interfaces := #[]
  cf := some (fileOf pool4 1 #[] #[] 1537 3 #[] #[])
  fields := #[]
  methods := #[]
  instanceTypes := #[]
  staticTypes := #[]
  resolved := Array.replicate 7 none
  statics := none }

def pool5 : Array CpInfo := pool [(1, .class_ 2), (0, u "java/lang/Comparable"), (0, .class_ 4), (0, u "java/lang/Object")] 7

/-- java/lang/Comparable -/
def k5 : Class := { plain "java/lang/Comparable" (some 0) with
  accessFlags := 1537
  interfaces := #[]
  cf := some (fileOf pool5 1 #[] #[] 1537 3 #[] #[])
  fields := #[]
  methods := #[]
  instanceTypes := #[]
  staticTypes := #[]
  resolved := Array.replicate 12 none
  statics := none }

def pool6 : Array CpInfo := pool [(2, .class_ 4), (1, u "java/lang/CharSequence"), (42, .class_ 48), (0, u "java/lang/CharSequence$1CodePointIterator"), (10, .class_ 60), (0, u "java/lang/CharSequence$1CharIterator"), (5, .class_ 67), (0, u "java/lang/Object")] 63

/-- java/lang/CharSequence -/
def k6 : Class := { plain "java/lang/CharSequence" (some 0) with
  accessFlags := 1537
  interfaces := #[]
  cf := some (fileOf pool6 2 #[.nestMembers #[47, 59]] #[] 1537 66 #[] #[])
  fields := #[]
  methods := #[]
  instanceTypes := #[]
  staticTypes := #[]
  resolved := Array.replicate 131 none
  statics := none }

def pool7 : Array CpInfo := pool [(1, .class_ 2), (0, u "java/lang/constant/Constable"), (0, .class_ 4), (0, u "java/lang/Object")] 6

/-- java/lang/constant/Constable -/
def k7 : Class := { plain "java/lang/constant/Constable" (some 0) with
  accessFlags := 1537
  interfaces := #[]
  cf := some (fileOf pool7 1 #[] #[] 1537 3 #[] #[])
  fields := #[]
  methods := #[]
  instanceTypes := #[]
  staticTypes := #[]
  resolved := Array.replicate 11 none
  statics := none }

def pool8 : Array CpInfo := pool [(1, .class_ 2), (0, u "java/lang/constant/ConstantDesc"), (0, .class_ 4), (0, u "java/lang/Object")] 32

/-- java/lang/constant/ConstantDesc -/
def k8 : Class := { plain "java/lang/constant/ConstantDesc" (some 0) with
  accessFlags := 1537
  interfaces := #[]
  cf := some (fileOf pool8 1 #[] #[] 1537 3 #[] #[])
  fields := #[]
  methods := #[]
  instanceTypes := #[]
  staticTypes := #[]
  resolved := Array.replicate 37 none
  statics := none }

def pool9 : Array CpInfo := pool [(1, .methodref 2 3), (0, .class_ 4), (0, .nameAndType 5 6), (0, u "java/lang/Object"), (0, u "<init>"), (0, u "()V"), (2, .fieldref 10 11), (0, .class_ 12), (0, .nameAndType 13 14), (0, u "java/lang/String"), (0, u "value"), (0, u "[B"), (0, .fieldref 10 16), (0, .nameAndType 17 18), (0, u "coder"), (0, u "B"), (2, u "hash"), (0, u "I"), (2, u "hashIsZero"), (0, u "Z"), (0, .methodref 10 28), (0, .nameAndType 5 29), (0, u "([CIILjava/lang/Void;)V"), (8, .fieldref 10 39), (0, .nameAndType 40 26), (0, u "COMPACT_STRINGS"), (1, .class_ 44), (1, u "java/lang/StringUTF16"), (0, u "compress"), (1, .methodref 42 48), (0, .nameAndType 49 50), (0, u "coderFromArrayLen"), (0, u "([BI)B"), (126, .methodref 42 178), (0, .nameAndType 45 179), (0, u "([CII)[B"), (395, .class_ 576), (0, u "java/lang/CharSequence"), (22, u "CASE_INSENSITIVE_ORDER"), (0, u "Ljava/util/Comparator;"), (409, u "([C)V"), (90, u "serialPersistentFields"), (0, u "[Ljava/io/ObjectStreamField;"), (0, .class_ 1104), (0, u "java/lang/String$CaseInsensitiveComparator"), (1, .class_ 1107), (0, u "java/io/Serializable"), (0, .class_ 1109), (0, u "java/lang/Comparable"), (0, .class_ 1111), (0, u "java/lang/constant/Constable"), (0, .class_ 1113), (0, u "java/lang/constant/ConstantDesc"), (2, u "serialVersionUID"), (0, u "J"), (3, u "REPL"), (0, u "C"), (2, u "LATIN1"), (1, u "UTF16")] 323

def k9m0 : Method := { name := "<init>", desc := "()V", sig := { parameters := [], returnType := none }, accessFlags := 1, code := none }
def k9c1 : Code := { maxStack := 5, maxLocals := 2, code := jdk_42_method_3_code, exceptionTable := #[], attributes := #[] }
def k9m1 : Method := { name := "<init>", desc := "([C)V", sig := { parameters := [(.array .char)], returnType := none }, accessFlags := 1, code := some k9c1 }
def k9c2 : Code := { maxStack := 4, maxLocals := 6, code := jdk_42_method_149_code, exceptionTable := #[], attributes := #[] }
def k9m2 : Method := { name := "<init>", desc := "([CIILjava/lang/Void;)V", sig := { parameters := [(.array .char), .int, .int, (.object "java/lang/Void")], returnType := none }, accessFlags := 2, code := some k9c2 }
/-- java/lang/String -/
def k9 : Class := { plain "java/lang/String" (some 0) with
  accessFlags := 49
  interfaces := #[4, 5, 6, 7, 8]
  cf := some (fileOf pool9 10 #[.nestMembers #[1103]] #[⟨1, 5, 6, #[]⟩, ⟨1, 5, 1010, #[]⟩, ⟨2, 5, 29, #[]⟩] 49 2 #[1106, 1108, 575, 1110, 1112] #[⟨18, 13, 14, #[]⟩, ⟨18, 17, 18, #[]⟩, ⟨2, 21, 22, #[]⟩, ⟨2, 25, 26, #[]⟩, ⟨26, 1116, 1117, #[]⟩, ⟨24, 40, 26, #[]⟩, ⟨26, 1101, 1102, #[]⟩, ⟨26, 1121, 1122, #[]⟩, ⟨25, 599, 600, #[]⟩, ⟨24, 1125, 18, #[]⟩, ⟨24, 1127, 18, #[]⟩])
  fields := #[⟨"value", (.array .byte), 18, 0, 0⟩, ⟨"coder", .byte, 18, 1, 0⟩, ⟨"hash", .int, 2, 2, 0⟩, ⟨"hashIsZero", .boolean, 2, 3, 0⟩, ⟨"serialVersionUID", .long, 26, 0, 0⟩, ⟨"COMPACT_STRINGS", .boolean, 24, 1, 0⟩, ⟨"serialPersistentFields", (.array (.object "java/io/ObjectStreamField")), 26, 2, 0⟩, ⟨"REPL", .char, 26, 3, 0⟩, ⟨"CASE_INSENSITIVE_ORDER", (.object "java/util/Comparator"), 25, 4, 0⟩, ⟨"LATIN1", .byte, 24, 5, 0⟩, ⟨"UTF16", .byte, 24, 6, 0⟩]
  methods := #[k9m0, k9m1, k9m2]
  instanceTypes := #[(.array .byte), .byte, .int, .boolean]
  staticTypes := #[.long, .boolean, (.array (.object "java/io/ObjectStreamField")), .char, (.object "java/util/Comparator"), .byte, .byte]
  resolved := Array.replicate 1451 none
  statics := some 0 }

def pool10 : Array CpInfo := pool [(6, .class_ 8), (1, u "java/lang/Object"), (0, u "<init>"), (0, u "()V"), (1, .class_ 14), (1, u "java/lang/StringUTF16"), (31, u "$assertionsDisabled"), (0, u "Z"), (13, u "HI_BYTE_SHIFT"), (0, u "I"), (2, u "LO_BYTE_SHIFT"), (49, .methodref 12 116), (0, .nameAndType 117 118), (0, u "compress"), (0, u "([CI[BII)I"), (3, u "([CII)[B"), (138, u "coderFromArrayLen"), (0, u "([BI)B"), (106, .class_ 371), (1, u "java/lang/StringUTF16$LinesSpliterator"), (58, u "MAX_LENGTH"), (196, .class_ 628), (0, u "java/lang/StringUTF16$CodePointsSpliterator"), (0, .class_ 630), (0, u "java/lang/StringUTF16$CharsSpliterator")] 4

def k10m0 : Method := { name := "<init>", desc := "()V", sig := { parameters := [], returnType := none }, accessFlags := 0, code := none }
def k10c1 : Code := { maxStack := 2, maxLocals := 2, code := jdk_52_method_15_code, exceptionTable := #[], attributes := #[] }
def k10m1 : Method := { name := "coderFromArrayLen", desc := "([BI)B", sig := { parameters := [(.array .byte), .int], returnType := some .byte }, accessFlags := 8, code := some k10c1 }
def k10c2 : Code := { maxStack := 5, maxLocals := 6, code := jdk_52_method_16_code, exceptionTable := #[], attributes := #[] }
def k10m2 : Method := { name := "compress", desc := "([CII)[B", sig := { parameters := [(.array .char), .int, .int], returnType := some (.array .byte) }, accessFlags := 9, code := some k10c2 }
def k10c3 : Code := { maxStack := 3, maxLocals := 7, code := jdk_52_method_21_code, exceptionTable := #[], attributes := #[] }
def k10m3 : Method := { name := "compress", desc := "([CI[BII)I", sig := { parameters := [(.array .char), .int, (.array .byte), .int, .int], returnType := some .int }, accessFlags := 9, code := some k10c3 }
/-- java/lang/StringUTF16 -/
def k10 : Class := { plain "java/lang/StringUTF16" (some 0) with
  accessFlags := 48
  interfaces := #[]
  cf := some (fileOf pool10 12 #[.nestMembers #[627, 629, 369]] #[⟨0, 9, 10, #[]⟩, ⟨8, 261, 262, #[]⟩, ⟨9, 117, 122, #[]⟩, ⟨9, 117, 118, #[]⟩] 48 6 #[] #[⟨26, 61, 62, #[]⟩, ⟨26, 65, 62, #[]⟩, ⟨24, 430, 62, #[]⟩, ⟨4120, 46, 47, #[]⟩])
  fields := #[⟨"HI_BYTE_SHIFT", .int, 26, 0, 0⟩, ⟨"LO_BYTE_SHIFT", .int, 26, 1, 0⟩, ⟨"MAX_LENGTH", .int, 24, 2, 0⟩, ⟨"$assertionsDisabled", .boolean, 4120, 3, 0⟩]
  methods := #[k10m0, k10m1, k10m2, k10m3]
  instanceTypes := #[]
  staticTypes := #[.int, .int, .int, .boolean]
  resolved := Array.replicate 635 none
  statics := none }

def pool11 : Array CpInfo := pool [(8, .class_ 10), (1, u "java/lang/Iterable"), (24, .class_ 36), (0, u "java/lang/Object")] 25

/-- java/lang/Iterable -/
def k11 : Class := { plain "java/lang/Iterable" (some 0) with
  accessFlags := 1537
  interfaces := #[]
  cf := some (fileOf pool11 8 #[] #[] 1537 35 #[] #[])
  fields := #[]
  methods := #[]
  instanceTypes := #[]
  staticTypes := #[]
  resolved := Array.replicate 62 none
  statics := none }

def pool12 : Array CpInfo := pool [(10, .class_ 12), (1, u "java/util/Collection"), (0, u "toArray"), (16, u "()Z"), (29, .class_ 61), (0, u "java/lang/Object"), (0, .class_ 63), (0, u "java/lang/Iterable"), (2, u "isEmpty"), (3, u "()[Ljava/lang/Object;")] 44

def k12m0 : Method := { name := "isEmpty", desc := "()Z", sig := { parameters := [], returnType := some .boolean }, accessFlags := 1025, code := none }
def k12m1 : Method := { name := "toArray", desc := "()[Ljava/lang/Object;", sig := { parameters := [], returnType := some (.array (.object "java/lang/Object")) }, accessFlags := 1025, code := none }
/-- java/util/Collection -/
def k12 : Class := { plain "java/util/Collection" (some 0) with
  accessFlags := 1537
  interfaces := #[11]
  cf := some (fileOf pool12 10 #[] #[⟨1025, 66, 30, #[]⟩, ⟨1025, 13, 70, #[]⟩] 1537 60 #[62] #[])
  fields := #[]
  methods := #[k12m0, k12m1]
  instanceTypes := #[]
  staticTypes := #[]
  resolved := Array.replicate 115 none
  statics := none }

def pool13 : Array CpInfo := pool [(1, .methodref 2 3), (0, .class_ 4), (0, .nameAndType 5 6), (0, u "java/lang/Object"), (0, u "<init>"), (0, u "()V"), (1, .class_ 10), (1, u "java/util/AbstractCollection"), (66, .class_ 78), (0, u "java/util/Collection")] 81

def k13c0 : Code := { maxStack := 1, maxLocals := 1, code := jdk_22_method_1_code, exceptionTable := #[], attributes := #[] }
def k13m0 : Method := { name := "<init>", desc := "()V", sig := { parameters := [], returnType := none }, accessFlags := 4, code := some k13c0 }
/-- java/util/AbstractCollection -/
def k13 : Class := { plain "java/util/AbstractCollection" (some 0) with
  accessFlags := 1057
  interfaces := #[12]
  cf := some (fileOf pool13 8 #[] #[⟨4, 5, 6, #[]⟩] 1057 2 #[77] #[])
  fields := #[]
  methods := #[k13m0]
  instanceTypes := #[]
  staticTypes := #[]
  resolved := Array.replicate 160 none
  statics := none }

def pool14 : Array CpInfo := pool [(8, .class_ 10), (1, u "java/util/SequencedCollection"), (15, .class_ 27), (0, u "java/lang/Object"), (0, .class_ 29), (0, u "java/util/Collection")] 27

/-- java/util/SequencedCollection -/
def k14 : Class := { plain "java/util/SequencedCollection" (some 0) with
  accessFlags := 1537
  interfaces := #[12]
  cf := some (fileOf pool14 8 #[] #[] 1537 26 #[28] #[])
  fields := #[]
  methods := #[]
  instanceTypes := #[]
  staticTypes := #[]
  resolved := Array.replicate 57 none
  statics := none }

def pool15 : Array CpInfo := pool [(8, .class_ 10), (1, u "java/util/List"), (7, u "()Z"), (12, u "(Ljava/lang/Object;)V"), (16, u "<init>"), (18, u "isEmpty"), (7, u "get"), (0, u "(I)Ljava/lang/Object;"), (2, u "size"), (0, u "()I"), (7, u "of"), (1, .fieldref 91 92), (0, .class_ 93), (0, .nameAndType 94 95), (0, u "java/util/ImmutableCollections"), (0, u "EMPTY_LIST"), (0, u "Ljava/util/ImmutableCollections$ListN;"), (0, .class_ 97), (0, u "java/util/ImmutableCollections$List12"), (0, .methodref 96 99), (0, .nameAndType 48 31), (0, .methodref 96 101), (0, .nameAndType 48 102), (0, u "(Ljava/lang/Object;Ljava/lang/Object;)V"), (0, .class_ 104), (0, u "java/lang/Object"), (3, u "([Ljava/lang/Object;)Ljava/util/List;"), (0, .methodref 91 110), (0, .nameAndType 111 108), (0, u "listFromArray"), (0, .methodref 91 113), (0, .nameAndType 114 115), (0, u "listCopy"), (0, u "(Ljava/util/Collection;)Ljava/util/List;"), (3, u "()Ljava/util/List;"), (0, .class_ 121), (0, u "java/util/SequencedCollection"), (112, u "copyOf")] 16

def k15m0 : Method := { name := "size", desc := "()I", sig := { parameters := [], returnType := some .int }, accessFlags := 1025, code := none }
def k15m1 : Method := { name := "isEmpty", desc := "()Z", sig := { parameters := [], returnType := some .boolean }, accessFlags := 1025, code := none }
def k15m2 : Method := { name := "get", desc := "(I)Ljava/lang/Object;", sig := { parameters := [.int], returnType := some (.object "java/lang/Object") }, accessFlags := 1025, code := none }
def k15c3 : Code := { maxStack := 1, maxLocals := 0, code := jdk_40_method_36_code, exceptionTable := #[], attributes := #[] }
def k15m3 : Method := { name := "of", desc := "()Ljava/util/List;", sig := { parameters := [], returnType := some (.object "java/util/List") }, accessFlags := 9, code := some k15c3 }
def k15c4 : Code := { maxStack := 5, maxLocals := 2, code := jdk_40_method_47_code, exceptionTable := #[], attributes := #[] }
def k15m4 : Method := { name := "of", desc := "([Ljava/lang/Object;)Ljava/util/List;", sig := { parameters := [(.array (.object "java/lang/Object"))], returnType := some (.object "java/util/List") }, accessFlags := 137, code := some k15c4 }
def k15c5 : Code := { maxStack := 1, maxLocals := 1, code := jdk_40_method_48_code, exceptionTable := #[], attributes := #[] }
def k15m5 : Method := { name := "copyOf", desc := "(Ljava/util/Collection;)Ljava/util/List;", sig := { parameters := [(.object "java/util/Collection")], returnType := some (.object "java/util/List") }, accessFlags := 9, code := some k15c5 }
/-- java/util/List -/
def k15 : Class := { plain "java/util/List" (some 0) with
  accessFlags := 1537
  interfaces := #[14]
  cf := some (fileOf pool15 8 #[] #[⟨1025, 79, 80, #[]⟩, ⟨1025, 67, 18, #[]⟩, ⟨1025, 75, 76, #[]⟩, ⟨9, 88, 119, #[]⟩, ⟨137, 88, 108, #[]⟩, ⟨9, 234, 115, #[]⟩] 1537 103 #[120] #[])
  fields := #[]
  methods := #[k15m0, k15m1, k15m2, k15m3, k15m4, k15m5]
  instanceTypes := #[]
  staticTypes := #[]
  resolved := Array.replicate 251 none
  statics := none }

def pool16 : Array CpInfo := pool [(1, .methodref 2 3), (0, .class_ 4), (0, .nameAndType 5 6), (0, u "java/util/AbstractCollection"), (0, u "<init>"), (0, u "()V"), (0, .fieldref 8 9), (0, .class_ 10), (0, .nameAndType 11 12), (0, u "java/util/AbstractList"), (0, u "modCount"), (0, u "I"), (64, .class_ 78), (0, u "java/util/AbstractList$Itr"), (3, .class_ 83), (0, u "java/util/AbstractList$ListItr"), (9, .class_ 94), (0, u "java/util/AbstractList$RandomAccessSubList"), (3, .class_ 99), (0, u "java/util/AbstractList$SubList"), (33, .class_ 134), (0, u "java/util/List"), (73, .class_ 209), (0, u "java/util/AbstractList$SubList$1"), (0, .class_ 211), (0, u "java/util/AbstractList$RandomAccessSpliterator")] 6

def k16c0 : Code := { maxStack := 2, maxLocals := 1, code := jdk_39_method_1_code, exceptionTable := #[], attributes := #[] }
def k16m0 : Method := { name := "<init>", desc := "()V", sig := { parameters := [], returnType := none }, accessFlags := 4, code := some k16c0 }
/-- java/util/AbstractList -/
def k16 : Class := { plain "java/util/AbstractList" (some 13) with
  accessFlags := 1057
  interfaces := #[15]
  cf := some (fileOf pool16 8 #[.nestMembers #[93, 98, 208, 210, 82, 77]] #[⟨4, 5, 6, #[]⟩] 1057 2 #[133] #[⟨132, 11, 12, #[]⟩])
  fields := #[⟨"modCount", .int, 132, 0, 0⟩]
  methods := #[k16m0]
  instanceTypes := #[.int]
  staticTypes := #[]
  resolved := Array.replicate 218 none
  statics := none }

def pool17 : Array CpInfo := pool [(1, .class_ 2), (0, u "java/util/RandomAccess"), (0, .class_ 4), (0, u "java/lang/Object")] 2

/-- java/util/RandomAccess -/
def k17 : Class := { plain "java/util/RandomAccess" (some 0) with
  accessFlags := 1537
  interfaces := #[]
  cf := some (fileOf pool17 1 #[] #[] 1537 3 #[] #[])
  fields := #[]
  methods := #[]
  instanceTypes := #[]
  staticTypes := #[]
  resolved := Array.replicate 7 none
  statics := none }

def pool18 : Array CpInfo := pool [(1, .class_ 2), (0, u "java/lang/Cloneable"), (0, .class_ 4), (0, u "java/lang/Object")] 2

/-- java/lang/Cloneable -/
def k18 : Class := { plain "java/lang/Cloneable" (some 0) with
  accessFlags := 1537
  interfaces := #[]
  cf := some (fileOf pool18 1 #[] #[] 1537 3 #[] #[])
  fields := #[]
  methods := #[]
  instanceTypes := #[]
  staticTypes := #[]
  resolved := Array.replicate 7 none
  statics := none }

def pool19 : Array CpInfo := pool [(1, .methodref 2 3), (0, .class_ 4), (0, .nameAndType 5 6), (0, u "java/util/AbstractList"), (0, u "<init>"), (0, u "()V"), (0, .class_ 8), (0, u "java/lang/Object"), (0, .fieldref 10 11), (0, .class_ 12), (0, .nameAndType 13 14), (0, u "java/util/ArrayList"), (0, u "elementData"), (0, u "[Ljava/lang/Object;"), (2, u "EMPTY_ELEMENTDATA"), (21, .fieldref 10 40), (0, .nameAndType 41 14), (0, u "DEFAULTCAPACITY_EMPTY_ELEMENTDATA"), (4, u "toArray"), (0, u "()[Ljava/lang/Object;"), (0, .fieldref 10 49), (0, .nameAndType 50 51), (0, u "size"), (0, u "I"), (6, .class_ 60), (1, u "java/util/Arrays"), (0, u "copyOf"), (1, .fieldref 10 64), (0, .nameAndType 65 51), (0, u "modCount"), (0, .methodref 58 67), (0, .nameAndType 61 68), (0, u "([Ljava/lang/Object;I)[Ljava/lang/Object;"), (0, .methodref 10 70), (0, .nameAndType 71 72), (0, u "grow"), (0, u "(I)[Ljava/lang/Object;"), (6, .methodref 80 81), (0, .class_ 82), (0, .nameAndType 83 84), (0, u "java/lang/Math"), (0, u "max"), (0, u "(II)I"), (11, u "(Ljava/lang/Object;)Z"), (32, .methodref 10 130), (0, .nameAndType 71 47), (0, .methodref 10 132), (0, .nameAndType 133 134), (0, u "add"), (0, u "(Ljava/lang/Object;[Ljava/lang/Object;I)V"), (13, .class_ 149), (0, u "java/util/List"), (23, u "()Z"), (88, .class_ 263), (0, u "java/util/ArrayList$ListItr"), (3, .class_ 268), (0, u "java/util/ArrayList$Itr"), (7, .class_ 277), (0, u "java/util/ArrayList$SubList"), (12, .class_ 291), (0, u "java/util/ArrayList$ArrayListSpliterator"), (37, .class_ 330), (0, u "java/util/RandomAccess"), (0, .class_ 332), (0, u "java/lang/Cloneable"), (0, .class_ 334), (0, u "java/io/Serializable"), (0, u "serialVersionUID"), (0, u "J"), (3, u "DEFAULT_CAPACITY"), (22, u "isEmpty"), (136, .class_ 501), (0, u "java/util/ArrayList$SubList$2"), (0, .class_ 503), (0, u "java/util/ArrayList$SubList$1")] 5

def k19c0 : Code := { maxStack := 2, maxLocals := 1, code := jdk_38_method_2_code, exceptionTable := #[], attributes := #[] }
def k19m0 : Method := { name := "<init>", desc := "()V", sig := { parameters := [], returnType := none }, accessFlags := 1, code := some k19c0 }
def k19c1 : Code := { maxStack := 4, maxLocals := 4, code := jdk_38_method_6_code, exceptionTable := #[], attributes := #[] }
def k19m1 : Method := { name := "grow", desc := "(I)[Ljava/lang/Object;", sig := { parameters := [.int], returnType := some (.array (.object "java/lang/Object")) }, accessFlags := 2, code := some k19c1 }
def k19c2 : Code := { maxStack := 3, maxLocals := 1, code := jdk_38_method_7_code, exceptionTable := #[], attributes := #[] }
def k19m2 : Method := { name := "grow", desc := "()[Ljava/lang/Object;", sig := { parameters := [], returnType := some (.array (.object "java/lang/Object")) }, accessFlags := 2, code := some k19c2 }
def k19c3 : Code := { maxStack := 1, maxLocals := 1, code := jdk_38_method_9_code, exceptionTable := #[], attributes := #[] }
def k19m3 : Method := { name := "isEmpty", desc := "()Z", sig := { parameters := [], returnType := some .boolean }, accessFlags := 1, code := some k19c3 }
def k19c4 : Code := { maxStack := 2, maxLocals := 1, code := jdk_38_method_16_code, exceptionTable := #[], attributes := #[] }
def k19m4 : Method := { name := "toArray", desc := "()[Ljava/lang/Object;", sig := { parameters := [], returnType := some (.array (.object "java/lang/Object")) }, accessFlags := 1, code := some k19c4 }
def k19c5 : Code := { maxStack := 3, maxLocals := 4, code := jdk_38_method_24_code, exceptionTable := #[], attributes := #[] }
def k19m5 : Method := { name := "add", desc := "(Ljava/lang/Object;[Ljava/lang/Object;I)V", sig := { parameters := [(.object "java/lang/Object"), (.array (.object "java/lang/Object")), .int], returnType := none }, accessFlags := 2, code := some k19c5 }
def k19c6 : Code := { maxStack := 4, maxLocals := 2, code := jdk_38_method_25_code, exceptionTable := #[], attributes := #[] }
def k19m6 : Method := { name := "add", desc := "(Ljava/lang/Object;)Z", sig := { parameters := [(.object "java/lang/Object")], returnType := some .boolean }, accessFlags := 1, code := some k19c6 }
/-- java/util/ArrayList -/
def k19 : Class := { plain "java/util/ArrayList" (some 16) with
  accessFlags := 33
  interfaces := #[15, 17, 18, 4]
  cf := some (fileOf pool19 10 #[.nestMembers #[290, 276, 500, 502, 262, 267]] #[⟨1, 5, 6, #[]⟩, ⟨2, 71, 72, #[]⟩, ⟨2, 71, 47, #[]⟩, ⟨1, 363, 173, #[]⟩, ⟨1, 46, 47, #[]⟩, ⟨2, 133, 134, #[]⟩, ⟨1, 133, 96, #[]⟩] 33 2 #[148, 329, 331, 333] #[⟨26, 335, 336, #[]⟩, ⟨26, 340, 51, #[]⟩, ⟨26, 17, 14, #[]⟩, ⟨26, 41, 14, #[]⟩, ⟨128, 13, 14, #[]⟩, ⟨2, 50, 51, #[]⟩])
  fields := #[⟨"serialVersionUID", .long, 26, 0, 0⟩, ⟨"DEFAULT_CAPACITY", .int, 26, 1, 0⟩, ⟨"EMPTY_ELEMENTDATA", (.array (.object "java/lang/Object")), 26, 2, 0⟩, ⟨"DEFAULTCAPACITY_EMPTY_ELEMENTDATA", (.array (.object "java/lang/Object")), 26, 3, 0⟩, ⟨"elementData", (.array (.object "java/lang/Object")), 128, 1, 0⟩, ⟨"size", .int, 2, 2, 0⟩]
  methods := #[k19m0, k19m1, k19m2, k19m3, k19m4, k19m5, k19m6]
  instanceTypes := #[.int, (.array (.object "java/lang/Object")), .int]
  staticTypes := #[.long, .int, (.array (.object "java/lang/Object")), (.array (.object "java/lang/Object"))]
  resolved := Array.replicate 509 none
  statics := some 1 }

def pool20 : Array CpInfo := pool [(2, .class_ 4), (1, u "java/lang/Object"), (0, u "<init>"), (0, u "()V"), (3, .class_ 11), (0, u "java/util/ImmutableCollections$List12"), (0, .class_ 13), (0, u "java/util/ImmutableCollections$ListN"), (3, u "Z"), (0, .class_ 19), (0, u "java/util/List"), (0, .interfaceMethodref 21 22), (0, .class_ 23), (0, .nameAndType 24 25), (0, u "java/util/Collection"), (0, u "isEmpty"), (0, u "()Z"), (0, .interfaceMethodref 18 27), (0, .nameAndType 28 29), (0, u "of"), (0, u "()Ljava/util/List;"), (0, .interfaceMethodref 21 31), (0, .nameAndType 32 33), (0, u "toArray"), (0, u "()[Ljava/lang/Object;"), (0, .interfaceMethodref 18 35), (0, .nameAndType 28 36), (0, u "([Ljava/lang/Object;)Ljava/util/List;"), (0, .methodref 38 39), (0, .class_ 40), (0, .nameAndType 41 42), (0, u "java/util/Objects"), (0, u "requireNonNull"), (0, u "(Ljava/lang/Object;)Ljava/lang/Object;"), (0, .methodref 12 44), (0, .nameAndType 5 45), (0, u "([Ljava/lang/Object;Z)V"), (1, .class_ 49), (1, u "java/util/ImmutableCollections"), (0, u "$assertionsDisabled"), (5, u "[Ljava/lang/Object;"), (5, u "EMPTY_LIST"), (0, u "Ljava/util/ImmutableCollections$ListN;"), (8, u "EMPTY_LIST_NULLS"), (22, u "SALT32L"), (0, u "J"), (2, u "REVERSE"), (6, u "archivedObjects"), (2, u "EMPTY"), (0, u "Ljava/lang/Object;"), (0, .class_ 112), (0, u "java/util/ImmutableCollections$SetN"), (5, u "EMPTY_SET"), (0, u "Ljava/util/ImmutableCollections$SetN;"), (0, .class_ 121), (0, u "java/util/ImmutableCollections$MapN"), (3, u "EMPTY_MAP"), (0, u "Ljava/util/ImmutableCollections$MapN;"), (4, u "EXPAND_FACTOR"), (0, u "I"), (9, u "listCopy"), (0, u "(Ljava/util/Collection;)Ljava/util/List;"), (7, u "listFromArray"), (17, .class_ 170), (0, u "java/util/ImmutableCollections$MapN$MapNIterator"), (0, .class_ 172), (0, u "java/util/ImmutableCollections$MapN$1"), (0, .class_ 174), (0, u "java/util/ImmutableCollections$Map1"), (0, .class_ 176), (0, u "java/util/ImmutableCollections$AbstractImmutableMap"), (0, .class_ 178), (0, u "java/util/ImmutableCollections$SetN$SetNIterator"), (0, .class_ 180), (0, u "java/util/ImmutableCollections$Set12"), (0, .class_ 182), (0, u "java/util/ImmutableCollections$Set12$1"), (0, .class_ 184), (0, u "java/util/ImmutableCollections$AbstractImmutableSet"), (0, .class_ 186), (0, u "java/util/ImmutableCollections$SubList"), (0, .class_ 188), (0, u "java/util/ImmutableCollections$ListItr"), (0, .class_ 190), (0, u "java/util/ImmutableCollections$AbstractImmutableList"), (0, .class_ 192), (0, u "java/util/ImmutableCollections$AbstractImmutableCollection"), (0, .class_ 194), (0, u "java/util/ImmutableCollections$Access"), (0, .class_ 196), (0, u "java/util/ImmutableCollections$Access$1")] 16

def k20m0 : Method := { name := "<init>", desc := "()V", sig := { parameters := [], returnType := none }, accessFlags := 2, code := none }
def k20c1 : Code := { maxStack := 1, maxLocals := 2, code := jdk_56_method_3_code, exceptionTable := #[], attributes := #[] }
def k20m1 : Method := { name := "listCopy", desc := "(Ljava/util/Collection;)Ljava/util/List;", sig := { parameters := [(.object "java/util/Collection")], returnType := some (.object "java/util/List") }, accessFlags := 8, code := some k20c1 }
def k20c2 : Code := { maxStack := 4, maxLocals := 3, code := jdk_56_method_4_code, exceptionTable := #[], attributes := #[] }
def k20m2 : Method := { name := "listFromArray", desc := "([Ljava/lang/Object;)Ljava/util/List;", sig := { parameters := [(.array (.object "java/lang/Object"))], returnType := some (.object "java/util/List") }, accessFlags := 136, code := some k20c2 }
/-- java/util/ImmutableCollections -/
def k20 : Class := { plain "java/util/ImmutableCollections" (some 0) with
  accessFlags := 32
  interfaces := #[]
  cf := some (fileOf pool20 47 #[.nestMembers #[120, 169, 171, 173, 175, 111, 177, 179, 181, 183, 12, 10, 185, 187, 189, 191, 193, 195]] #[⟨2, 5, 6, #[]⟩, ⟨8, 142, 143, #[]⟩, ⟨136, 151, 36, #[]⟩] 32 2 #[] #[⟨26, 95, 96, #[]⟩, ⟨26, 99, 17, #[]⟩, ⟨10, 106, 56, #[]⟩, ⟨26, 109, 110, #[]⟩, ⟨24, 62, 63, #[]⟩, ⟨24, 72, 63, #[]⟩, ⟨24, 118, 119, #[]⟩, ⟨24, 125, 126, #[]⟩, ⟨24, 131, 132, #[]⟩, ⟨4120, 50, 17, #[]⟩])
  fields := #[⟨"SALT32L", .long, 26, 0, 0⟩, ⟨"REVERSE", .boolean, 26, 1, 0⟩, ⟨"archivedObjects", (.array (.object "java/lang/Object")), 10, 2, 0⟩, ⟨"EMPTY", (.object "java/lang/Object"), 26, 3, 0⟩, ⟨"EMPTY_LIST", (.object "java/util/ImmutableCollections$ListN"), 24, 4, 0⟩, ⟨"EMPTY_LIST_NULLS", (.object "java/util/ImmutableCollections$ListN"), 24, 5, 0⟩, ⟨"EMPTY_SET", (.object "java/util/ImmutableCollections$SetN"), 24, 6, 0⟩, ⟨"EMPTY_MAP", (.object "java/util/ImmutableCollections$MapN"), 24, 7, 0⟩, ⟨"EXPAND_FACTOR", .int, 24, 8, 0⟩, ⟨"$assertionsDisabled", .boolean, 4120, 9, 0⟩]
  methods := #[k20m0, k20m1, k20m2]
  instanceTypes := #[]
  staticTypes := #[.long, .boolean, (.array (.object "java/lang/Object")), (.object "java/lang/Object"), (.object "java/util/ImmutableCollections$ListN"), (.object "java/util/ImmutableCollections$ListN"), (.object "java/util/ImmutableCollections$SetN"), (.object "java/util/ImmutableCollections$MapN"), .int, .boolean]
  resolved := Array.replicate 213 none
  statics := some 2 }

def pool21 : Array CpInfo := pool [(1, .methodref 2 3), (0, .class_ 4), (0, .nameAndType 5 6), (0, u "java/util/AbstractCollection"), (0, u "<init>"), (0, u "()V"), (1, .class_ 10), (1, u "java/util/ImmutableCollections"), (2, .class_ 14), (0, u "java/util/ImmutableCollections$AbstractImmutableCollection")] 41

def k21c0 : Code := { maxStack := 1, maxLocals := 1, code := jdk_47_method_1_code, exceptionTable := #[], attributes := #[] }
def k21m0 : Method := { name := "<init>", desc := "()V", sig := { parameters := [], returnType := none }, accessFlags := 0, code := some k21c0 }
/-- java/util/ImmutableCollections$AbstractImmutableCollection -/
def k21 : Class := { plain "java/util/ImmutableCollections$AbstractImmutableCollection" (some 13) with
  accessFlags := 1056
  interfaces := #[]
  cf := some (fileOf pool21 13 #[.nestHost 8] #[⟨0, 5, 6, #[]⟩] 1056 2 #[] #[])
  fields := #[]
  methods := #[k21m0]
  instanceTypes := #[]
  staticTypes := #[]
  resolved := Array.replicate 56 none
  statics := none }

def pool22 : Array CpInfo := pool [(1, .methodref 2 3), (0, .class_ 4), (0, .nameAndType 5 6), (0, u "java/util/ImmutableCollections$AbstractImmutableCollection"), (0, u "<init>"), (0, u "()V"), (1, .class_ 10), (1, u "java/util/ImmutableCollections"), (3, .class_ 16), (1, u "java/util/ImmutableCollections$AbstractImmutableList"), (60, .class_ 78), (0, u "java/util/List"), (45, .class_ 125), (0, u "java/util/RandomAccess")] 70

def k22c0 : Code := { maxStack := 1, maxLocals := 1, code := jdk_46_method_1_code, exceptionTable := #[], attributes := #[] }
def k22m0 : Method := { name := "<init>", desc := "()V", sig := { parameters := [], returnType := none }, accessFlags := 0, code := some k22c0 }
/-- java/util/ImmutableCollections$AbstractImmutableList -/
def k22 : Class := { plain "java/util/ImmutableCollections$AbstractImmutableList" (some 21) with
  accessFlags := 1056
  interfaces := #[15, 17]
  cf := some (fileOf pool22 14 #[.nestHost 8] #[⟨0, 5, 6, #[]⟩] 1056 2 #[77, 124] #[])
  fields := #[]
  methods := #[k22m0]
  instanceTypes := #[]
  staticTypes := #[]
  resolved := Array.replicate 196 none
  statics := none }

def pool23 : Array CpInfo := pool [(1, .methodref 2 3), (0, .class_ 4), (0, .nameAndType 5 6), (0, u "java/util/ImmutableCollections$AbstractImmutableList"), (0, u "<init>"), (0, u "()V"), (0, .methodref 8 9), (0, .class_ 10), (0, .nameAndType 11 12), (0, u "java/util/Objects"), (0, u "requireNonNull"), (0, u "(Ljava/lang/Object;)Ljava/lang/Object;"), (0, .fieldref 14 15), (0, .class_ 16), (0, .nameAndType 17 18), (0, u "java/util/ImmutableCollections$List12"), (0, u "e0"), (0, u "Ljava/lang/Object;"), (0, .fieldref 20 21), (0, .class_ 22), (0, .nameAndType 23 18), (0, u "java/util/ImmutableCollections"), (0, u "EMPTY"), (0, .fieldref 14 25), (0, .nameAndType 26 18), (0, u "e1"), (24, u "size"), (0, u "()I"), (17, .class_ 71), (0, u "java/io/Serializable"), (4, u "(Ljava/lang/Object;)V"), (8, u "(Ljava/lang/Object;Ljava/lang/Object;)V"), (4, u "get"), (0, u "(I)Ljava/lang/Object;")] 33

def k23c0 : Code := { maxStack := 2, maxLocals := 2, code := jdk_44_method_1_code, exceptionTable := #[], attributes := #[] }
def k23m0 : Method := { name := "<init>", desc := "(Ljava/lang/Object;)V", sig := { parameters := [(.object "java/lang/Object")], returnType := none }, accessFlags := 0, code := some k23c0 }
def k23c1 : Code := { maxStack := 2, maxLocals := 3, code := jdk_44_method_2_code, exceptionTable := #[], attributes := #[] }
def k23m1 : Method := { name := "<init>", desc := "(Ljava/lang/Object;Ljava/lang/Object;)V", sig := { parameters := [(.object "java/lang/Object"), (.object "java/lang/Object")], returnType := none }, accessFlags := 0, code := some k23c1 }
def k23c2 : Code := { maxStack := 2, maxLocals := 1, code := jdk_44_method_3_code, exceptionTable := #[], attributes := #[] }
def k23m2 : Method := { name := "size", desc := "()I", sig := { parameters := [], returnType := some .int }, accessFlags := 1, code := some k23c2 }
def k23c3 : Code := { maxStack := 2, maxLocals := 2, code := jdk_44_method_5_code, exceptionTable := #[], attributes := #[] }
def k23m3 : Method := { name := "get", desc := "(I)Ljava/lang/Object;", sig := { parameters := [.int], returnType := some (.object "java/lang/Object") }, accessFlags := 1, code := some k23c3 }
/-- java/util/ImmutableCollections$List12 -/
def k23 : Class := { plain "java/util/ImmutableCollections$List12" (some 22) with
  accessFlags := 48
  interfaces := #[4]
  cf := some (fileOf pool23 14 #[.nestHost 20] #[⟨0, 5, 76, #[]⟩, ⟨0, 5, 85, #[]⟩, ⟨1, 51, 52, #[]⟩, ⟨1, 90, 91, #[]⟩] 48 2 #[70] #[⟨18, 17, 18, #[]⟩, ⟨18, 26, 18, #[]⟩])
  fields := #[⟨"e0", (.object "java/lang/Object"), 18, 0, 0⟩, ⟨"e1", (.object "java/lang/Object"), 18, 1, 0⟩]
  methods := #[k23m0, k23m1, k23m2, k23m3]
  instanceTypes := #[(.object "java/lang/Object"), (.object "java/lang/Object")]
  staticTypes := #[]
  resolved := Array.replicate 125 none
  statics := none }

def pool24 : Array CpInfo := pool [(1, .methodref 2 3), (0, .class_ 4), (0, .nameAndType 5 6), (0, u "java/util/ImmutableCollections$AbstractImmutableList"), (0, u "<init>"), (0, u "()V"), (0, .fieldref 8 9), (0, .class_ 10), (0, .nameAndType 11 12), (0, u "java/util/ImmutableCollections$ListN"), (0, u "elements"), (0, u "[Ljava/lang/Object;"), (0, .fieldref 8 14), (0, .nameAndType 15 16), (0, u "allowNulls"), (0, u "Z"), (42, .class_ 60), (0, u "java/io/Serializable"), (4, u "([Ljava/lang/Object;Z)V"), (11, u "size"), (0, u "()I"), (0, u "get"), (0, u "(I)Ljava/lang/Object;"), (33, .class_ 115), (0, u "java/util/ImmutableCollections")] 3

def k24c0 : Code := { maxStack := 2, maxLocals := 3, code := jdk_45_method_1_code, exceptionTable := #[], attributes := #[] }
def k24m0 : Method := { name := "<init>", desc := "([Ljava/lang/Object;Z)V", sig := { parameters := [(.array (.object "java/lang/Object")), .boolean], returnType := none }, accessFlags := 2, code := some k24c0 }
def k24c1 : Code := { maxStack := 1, maxLocals := 1, code := jdk_45_method_3_code, exceptionTable := #[], attributes := #[] }
def k24m1 : Method := { name := "size", desc := "()I", sig := { parameters := [], returnType := some .int }, accessFlags := 1, code := some k24c1 }
def k24c2 : Code := { maxStack := 2, maxLocals := 2, code := jdk_45_method_4_code, exceptionTable := #[], attributes := #[] }
def k24m2 : Method := { name := "get", desc := "(I)Ljava/lang/Object;", sig := { parameters := [.int], returnType := some (.object "java/lang/Object") }, accessFlags := 1, code := some k24c2 }
/-- java/util/ImmutableCollections$ListN -/
def k24 : Class := { plain "java/util/ImmutableCollections$ListN" (some 22) with
  accessFlags := 48
  interfaces := #[4]
  cf := some (fileOf pool24 8 #[.nestHost 114] #[⟨2, 5, 65, #[]⟩, ⟨1, 77, 78, #[]⟩, ⟨1, 79, 80, #[]⟩] 48 2 #[59] #[⟨18, 11, 12, #[]⟩, ⟨18, 15, 16, #[]⟩])
  fields := #[⟨"elements", (.array (.object "java/lang/Object")), 18, 0, 0⟩, ⟨"allowNulls", .boolean, 18, 1, 0⟩]
  methods := #[k24m0, k24m1, k24m2]
  instanceTypes := #[(.array (.object "java/lang/Object")), .boolean]
  staticTypes := #[]
  resolved := Array.replicate 119 none
  statics := none }

def pool25 : Array CpInfo := pool [(1, .class_ 2), (0, u "java/lang/Math"), (1, .class_ 6), (1, u "java/lang/Object"), (0, u "<init>"), (0, u "()V"), (89, .class_ 100), (1, u "java/lang/Math$RandomNumberGeneratorHolder"), (71, u "negativeZeroFloatBits"), (0, u "J"), (2, u "negativeZeroDoubleBits"), (21, u "max"), (2, u "min"), (43, u "$assertionsDisabled"), (0, u "Z"), (88, u "(II)I"), (2, u "twoToTheDoubleScaleDown"), (0, u "D"), (4, u "twoToTheDoubleScaleUp"), (9, u "E"), (3, u "PI"), (2, u "TAU"), (2, u "DEGREES_TO_RADIANS"), (0, u "RADIANS_TO_DEGREES")] 94

def k25m0 : Method := { name := "<init>", desc := "()V", sig := { parameters := [], returnType := none }, accessFlags := 2, code := none }
def k25c1 : Code := { maxStack := 2, maxLocals := 2, code := jdk_29_method_65_code, exceptionTable := #[], attributes := #[] }
def k25m1 : Method := { name := "max", desc := "(II)I", sig := { parameters := [.int, .int], returnType := some .int }, accessFlags := 9, code := some k25c1 }
def k25c2 : Code := { maxStack := 2, maxLocals := 2, code := jdk_29_method_69_code, exceptionTable := #[], attributes := #[] }
def k25m2 : Method := { name := "min", desc := "(II)I", sig := { parameters := [.int, .int], returnType := some .int }, accessFlags := 9, code := some k25c2 }
/-- java/lang/Math -/
def k25 : Class := { plain "java/lang/Math" (some 0) with
  accessFlags := 49
  interfaces := #[]
  cf := some (fileOf pool25 1 #[.nestMembers #[98]] #[⟨2, 7, 8, #[]⟩, ⟨9, 198, 335, #[]⟩, ⟨9, 201, 335, #[]⟩] 49 4 #[] #[⟨25, 354, 339, #[]⟩, ⟨25, 358, 339, #[]⟩, ⟨25, 361, 339, #[]⟩, ⟨26, 364, 339, #[]⟩, ⟨26, 365, 339, #[]⟩, ⟨26, 172, 173, #[]⟩, ⟨26, 176, 173, #[]⟩, ⟨8, 344, 339, #[]⟩, ⟨8, 338, 339, #[]⟩, ⟨4120, 245, 246, #[]⟩])
  fields := #[⟨"E", .double, 25, 0, 0⟩, ⟨"PI", .double, 25, 1, 0⟩, ⟨"TAU", .double, 25, 2, 0⟩, ⟨"DEGREES_TO_RADIANS", .double, 26, 3, 0⟩, ⟨"RADIANS_TO_DEGREES", .double, 26, 4, 0⟩, ⟨"negativeZeroFloatBits", .long, 26, 5, 0⟩, ⟨"negativeZeroDoubleBits", .long, 26, 6, 0⟩, ⟨"twoToTheDoubleScaleUp", .double, 8, 7, 0⟩, ⟨"twoToTheDoubleScaleDown", .double, 8, 8, 0⟩, ⟨"$assertionsDisabled", .boolean, 4120, 9, 0⟩]
  methods := #[k25m0, k25m1, k25m2]
  instanceTypes := #[]
  staticTypes := #[.double, .double, .double, .double, .double, .long, .long, .double, .double, .boolean]
  resolved := Array.replicate 460 none
  statics := none }

def pool26 : Array CpInfo := pool [(1, .methodref 2 3), (0, .class_ 4), (0, .nameAndType 5 6), (0, u "java/lang/Record"), (0, u "<init>"), (0, u "()V"), (0, .interfaceMethodref 8 9), (0, .class_ 10), (0, .nameAndType 11 12), (0, u "java/util/List"), (0, u "isEmpty"), (0, u "()Z"), (9, .interfaceMethodref 8 23), (0, .nameAndType 24 25), (0, u "copyOf"), (0, u "(Ljava/util/Collection;)Ljava/util/List;"), (0, .fieldref 27 28), (0, .class_ 29), (0, .nameAndType 30 31), (0, u "com/example/sessn/sessn/log/LoggedSession"), (0, u "id"), (0, u "Ljava/lang/String;"), (0, .fieldref 27 33), (0, .nameAndType 34 35), (0, u "queries"), (0, u "Ljava/util/List;"), (0, .interfaceMethodref 8 37), (0, .nameAndType 38 39), (0, u "size"), (0, u "()I"), (4, .interfaceMethodref 8 45), (0, .nameAndType 46 47), (0, u "get"), (0, u "(I)Ljava/lang/Object;"), (0, .class_ 49), (0, u "com/example/sessn/sessn/log/LoggedQuery"), (7, .class_ 58), (0, u "com/example/sessn/sessn/log/LoggedSession$Event"), (85, u "(Ljava/lang/String;Ljava/util/List;)V"), (9, u "current"), (0, u "()Lcom/example/sessn/sessn/log/LoggedQuery;")] 49

def k26c0 : Code := { maxStack := 3, maxLocals := 3, code := prog_20_method_1_code, exceptionTable := #[], attributes := #[] }
def k26m0 : Method := { name := "<init>", desc := "(Ljava/lang/String;Ljava/util/List;)V", sig := { parameters := [(.object "java/lang/String"), (.object "java/util/List")], returnType := none }, accessFlags := 1, code := some k26c0 }
def k26c1 : Code := { maxStack := 3, maxLocals := 1, code := prog_20_method_3_code, exceptionTable := #[], attributes := #[] }
def k26m1 : Method := { name := "current", desc := "()Lcom/example/sessn/sessn/log/LoggedQuery;", sig := { parameters := [], returnType := some (.object "com/example/sessn/sessn/log/LoggedQuery") }, accessFlags := 1, code := some k26c1 }
/-- com/example/sessn/sessn/log/LoggedSession -/
def k26 : Class := { plain "com/example/sessn/sessn/log/LoggedSession" (some 2) with
  accessFlags := 49
  interfaces := #[]
  cf := some (fileOf pool26 27 #[.nestMembers #[57]] #[⟨1, 5, 144, #[]⟩, ⟨1, 154, 155, #[]⟩] 49 2 #[] #[⟨18, 30, 31, #[]⟩, ⟨18, 34, 35, #[]⟩])
  fields := #[⟨"id", (.object "java/lang/String"), 18, 0, 0⟩, ⟨"queries", (.object "java/util/List"), 18, 1, 0⟩]
  methods := #[k26m0, k26m1]
  instanceTypes := #[(.object "java/lang/String"), (.object "java/util/List")]
  staticTypes := #[]
  resolved := Array.replicate 205 none
  statics := none }

def pool27 : Array CpInfo := pool [(2, .class_ 4), (1, u "java/lang/Object"), (0, u "<init>"), (0, u "()V"), (7, .class_ 16), (1, u "java/util/Arrays"), (57, .class_ 76), (1, u "java/util/Arrays$NaturalOrder"), (9, .methodref 2 87), (0, .nameAndType 88 89), (0, u "getClass"), (0, u "()Ljava/lang/Class;"), (20, .class_ 111), (0, u "[Ljava/lang/Object;"), (1, .class_ 115), (1, u "java/util/Arrays$LegacyMergeSort"), (1, u "Z"), (32, .methodref 151 152), (0, .class_ 153), (0, .nameAndType 154 155), (0, u "java/lang/System"), (0, u "arraycopy"), (0, u "(Ljava/lang/Object;ILjava/lang/Object;II)V"), (144, .methodref 14 301), (0, .nameAndType 302 303), (0, u "copyOf"), (0, u "([Ljava/lang/Object;ILjava/lang/Class;)[Ljava/lang/Object;"), (0, .methodref 305 306), (0, .class_ 307), (0, .nameAndType 308 309), (0, u "java/lang/Math"), (0, u "min"), (0, u "(II)I"), (65, .class_ 376), (0, u "java/util/Arrays$ArrayList"), (68, u "$assertionsDisabled"), (269, u "MIN_ARRAY_SORT_GRAN"), (0, u "I"), (2, u "INSERTIONSORT_THRESHOLD"), (140, u "([Ljava/lang/Object;I)[Ljava/lang/Object;"), (114, .class_ 976), (0, u "java/util/Arrays$ArrayItr")] 52

def k27m0 : Method := { name := "<init>", desc := "()V", sig := { parameters := [], returnType := none }, accessFlags := 2, code := none }
def k27c1 : Code := { maxStack := 3, maxLocals := 2, code := jdk_65_method_119_code, exceptionTable := #[], attributes := #[] }
def k27m1 : Method := { name := "copyOf", desc := "([Ljava/lang/Object;I)[Ljava/lang/Object;", sig := { parameters := [(.array (.object "java/lang/Object")), .int], returnType := some (.array (.object "java/lang/Object")) }, accessFlags := 9, code := some k27c1 }
def k27c2 : Code := { maxStack := 6, maxLocals := 4, code := jdk_65_method_120_code, exceptionTable := #[], attributes := #[] }
def k27m2 : Method := { name := "copyOf", desc := "([Ljava/lang/Object;ILjava/lang/Class;)[Ljava/lang/Object;", sig := { parameters := [(.array (.object "java/lang/Object")), .int, (.object "java/lang/Class")], returnType := some (.array (.object "java/lang/Object")) }, accessFlags := 9, code := some k27c2 }
/-- java/util/Arrays -/
def k27 : Class := { plain "java/util/Arrays" (some 0) with
  accessFlags := 49
  interfaces := #[]
  cf := some (fileOf pool27 14 #[.nestMembers #[975, 375, 113, 74]] #[⟨2, 5, 6, #[]⟩, ⟨9, 302, 860, #[]⟩, ⟨9, 302, 303, #[]⟩] 49 2 #[] #[⟨26, 715, 716, #[]⟩, ⟨26, 719, 716, #[]⟩, ⟨4120, 445, 117, #[]⟩])
  fields := #[⟨"MIN_ARRAY_SORT_GRAN", .int, 26, 0, 0⟩, ⟨"INSERTIONSORT_THRESHOLD", .int, 26, 1, 0⟩, ⟨"$assertionsDisabled", .boolean, 4120, 2, 0⟩]
  methods := #[k27m0, k27m1, k27m2]
  instanceTypes := #[]
  staticTypes := #[.int, .int, .boolean]
  resolved := Array.replicate 1029 none
  statics := none }

def pool28 : Array CpInfo := pool [(2, .class_ 4), (1, u "java/lang/Object"), (0, u "<init>"), (0, u "()V"), (1, .class_ 10), (1, u "java/lang/System"), (0, u "allowSecurityManager"), (0, u "I"), (16, u "cons"), (0, u "Ljava/io/Console;"), (77, .class_ 110), (1, u "java/lang/System$CallersHolder"), (43, u "initialErrStream"), (0, u "Ljava/io/PrintStream;"), (19, u "security"), (0, u "Ljava/lang/SecurityManager;"), (31, .class_ 209), (0, u "java/lang/System$1"), (7, u "props"), (0, u "Ljava/util/Properties;"), (2, u "lineSeparator"), (0, u "Ljava/lang/String;"), (96, .class_ 321), (1, u "java/lang/System$LoggerFinder"), (5, .class_ 328), (0, u "java/lang/System$Logger"), (67, u "err"), (2, u "out"), (91, u "notSupportedJnuEncoding"), (15, u "in"), (17, u "initialIn"), (0, u "Ljava/io/InputStream;"), (35, u "bootLayer"), (0, u "Ljava/lang/ModuleLayer;"), (99, .class_ 664), (0, u "java/lang/System$2"), (9, u "NEVER"), (2, u "MAYBE"), (49, u "arraycopy"), (0, u "(Ljava/lang/Object;ILjava/lang/Object;II)V"), (72, .class_ 802), (0, u "java/lang/System$Logger$Level")] 31

def k28m0 : Method := { name := "<init>", desc := "()V", sig := { parameters := [], returnType := none }, accessFlags := 2, code := none }
def k28m1 : Method := { name := "arraycopy", desc := "(Ljava/lang/Object;ILjava/lang/Object;II)V", sig := { parameters := [(.object "java/lang/Object"), .int, (.object "java/lang/Object"), .int, .int], returnType := none }, accessFlags := 265, code := none }
/-- java/lang/System -/
def k28 : Class := { plain "java/lang/System" (some 0) with
  accessFlags := 49
  interfaces := #[]
  cf := some (fileOf pool28 8 #[.nestMembers #[319, 327, 801, 108, 663, 208]] #[⟨2, 5, 6, #[]⟩, ⟨265, 727, 728, #[]⟩] 49 2 #[] #[⟨25, 507, 526, #[]⟩, ⟨25, 399, 155, #[]⟩, ⟨25, 396, 155, #[]⟩, ⟨10, 525, 526, #[]⟩, ⟨26, 674, 12, #[]⟩, ⟨26, 677, 12, #[]⟩, ⟨10, 11, 12, #[]⟩, ⟨74, 175, 176, #[]⟩, ⟨10, 491, 222, #[]⟩, ⟨74, 29, 30, #[]⟩, ⟨74, 154, 155, #[]⟩, ⟨10, 217, 218, #[]⟩, ⟨10, 221, 222, #[]⟩, ⟨8, 562, 563, #[]⟩])
  fields := #[⟨"in", (.object "java/io/InputStream"), 25, 0, 0⟩, ⟨"out", (.object "java/io/PrintStream"), 25, 1, 0⟩, ⟨"err", (.object "java/io/PrintStream"), 25, 2, 0⟩, ⟨"initialIn", (.object "java/io/InputStream"), 10, 3, 0⟩, ⟨"NEVER", .int, 26, 4, 0⟩, ⟨"MAYBE", .int, 26, 5, 0⟩, ⟨"allowSecurityManager", .int, 10, 6, 0⟩, ⟨"security", (.object "java/lang/SecurityManager"), 74, 7, 0⟩, ⟨"notSupportedJnuEncoding", (.object "java/lang/String"), 10, 8, 0⟩, ⟨"cons", (.object "java/io/Console"), 74, 9, 0⟩, ⟨"initialErrStream", (.object "java/io/PrintStream"), 74, 10, 0⟩, ⟨"props", (.object "java/util/Properties"), 10, 11, 0⟩, ⟨"lineSeparator", (.object "java/lang/String"), 10, 12, 0⟩, ⟨"bootLayer", (.object "java/lang/ModuleLayer"), 8, 13, 0⟩]
  methods := #[k28m0, k28m1]
  instanceTypes := #[]
  staticTypes := #[(.object "java/io/InputStream"), (.object "java/io/PrintStream"), (.object "java/io/PrintStream"), (.object "java/io/InputStream"), .int, .int, .int, (.object "java/lang/SecurityManager"), (.object "java/lang/String"), (.object "java/io/Console"), (.object "java/io/PrintStream"), (.object "java/util/Properties"), (.object "java/lang/String"), (.object "java/lang/ModuleLayer")]
  resolved := Array.replicate 834 none
  statics := none }

def pool29 : Array CpInfo := pool [(2, .class_ 4), (1, u "java/lang/Object"), (0, u "<init>"), (0, u "()V"), (35, .class_ 44), (1, u "java/util/Objects"), (0, u "requireNonNull"), (0, u "(Ljava/lang/Object;)Ljava/lang/Object;")] 137

def k29m0 : Method := { name := "<init>", desc := "()V", sig := { parameters := [], returnType := none }, accessFlags := 2, code := none }
def k29c1 : Code := { maxStack := 2, maxLocals := 1, code := jdk_31_method_10_code, exceptionTable := #[], attributes := #[] }
def k29m1 : Method := { name := "requireNonNull", desc := "(Ljava/lang/Object;)Ljava/lang/Object;", sig := { parameters := [(.object "java/lang/Object")], returnType := some (.object "java/lang/Object") }, accessFlags := 9, code := some k29c1 }
/-- java/util/Objects -/
def k29 : Class := { plain "java/util/Objects" (some 0) with
  accessFlags := 49
  interfaces := #[]
  cf := some (fileOf pool29 42 #[] #[⟨2, 5, 6, #[]⟩, ⟨9, 45, 46, #[]⟩] 49 2 #[] #[])
  fields := #[]
  methods := #[k29m0, k29m1]
  instanceTypes := #[]
  staticTypes := #[]
  resolved := Array.replicate 184 none
  statics := none }

def pool30 : Array CpInfo := pool [(4, .class_ 6), (1, u "java/lang/Object"), (0, u "<init>"), (0, u "()V"), (5, .class_ 16), (1, u "java/lang/StringLatin1"), (104, u "$assertionsDisabled"), (0, u "Z"), (98, .class_ 223), (1, u "java/lang/StringLatin1$LinesSpliterator"), (166, .class_ 391), (0, u "java/lang/StringLatin1$CharsSpliterator")] 3

def k30m0 : Method := { name := "<init>", desc := "()V", sig := { parameters := [], returnType := none }, accessFlags := 0, code := none }
/-- java/lang/StringLatin1 -/
def k30 : Class := { plain "java/lang/StringLatin1" (some 0) with
  accessFlags := 48
  interfaces := #[]
  cf := some (fileOf pool30 14 #[.nestMembers #[390, 221]] #[⟨0, 7, 8, #[]⟩] 48 4 #[] #[⟨4120, 121, 122, #[]⟩])
  fields := #[⟨"$assertionsDisabled", .boolean, 4120, 0, 0⟩]
  methods := #[k30m0]
  instanceTypes := #[]
  staticTypes := #[.boolean]
  resolved := Array.replicate 395 none
  statics := none }

def pool31 : Array CpInfo := pool [(2, .class_ 4), (1, u "java/lang/Object"), (0, u "<init>"), (0, u "()V"), (17, .class_ 26), (1, u "jdk/internal/util/Preconditions"), (28, .class_ 56), (0, u "jdk/internal/util/Preconditions$4"), (57, .class_ 115), (0, u "jdk/internal/util/Preconditions$1"), (7, u "SIOOBE_FORMATTER"), (0, u "Ljava/util/function/BiFunction;"), (0, .class_ 126), (0, u "jdk/internal/util/Preconditions$2"), (3, u "AIOOBE_FORMATTER"), (0, .class_ 132), (0, u "jdk/internal/util/Preconditions$3"), (3, u "IOOBE_FORMATTER")] 57

def k31m0 : Method := { name := "<init>", desc := "()V", sig := { parameters := [], returnType := none }, accessFlags := 1, code := none }
/-- jdk/internal/util/Preconditions -/
def k31 : Class := { plain "jdk/internal/util/Preconditions" (some 0) with
  accessFlags := 33
  interfaces := #[]
  cf := some (fileOf pool31 24 #[.nestMembers #[55, 131, 125, 114]] #[⟨1, 5, 6, #[]⟩] 33 2 #[] #[⟨25, 123, 124, #[]⟩, ⟨25, 130, 124, #[]⟩, ⟨25, 136, 124, #[]⟩])
  fields := #[⟨"SIOOBE_FORMATTER", (.object "java/util/function/BiFunction"), 25, 0, 0⟩, ⟨"AIOOBE_FORMATTER", (.object "java/util/function/BiFunction"), 25, 1, 0⟩, ⟨"IOOBE_FORMATTER", (.object "java/util/function/BiFunction"), 25, 2, 0⟩]
  methods := #[k31m0]
  instanceTypes := #[]
  staticTypes := #[(.object "java/util/function/BiFunction"), (.object "java/util/function/BiFunction"), (.object "java/util/function/BiFunction")]
  resolved := Array.replicate 194 none
  statics := some 3 }

def pool32 : Array CpInfo := pool [(9, u "<init>"), (6, .class_ 18), (1, u "java/lang/Object"), (0, u "()V"), (1, .class_ 23), (1, u "jdk/internal/util/ArraysSupport"), (0, u "LOG2_ARRAY_LONG_INDEX_SCALE"), (0, u "I"), (2, u "U"), (0, u "Ljdk/internal/misc/Unsafe;"), (8, u "BIG_ENDIAN"), (0, u "Z"), (8, u "LOG2_BYTE_BIT_SIZE"), (4, u "LOG2_ARRAY_INT_INDEX_SCALE"), (54, u "JLA"), (0, u "Ljdk/internal/access/JavaLangAccess;"), (11, u "LOG2_ARRAY_BOOLEAN_INDEX_SCALE"), (9, u "LOG2_ARRAY_BYTE_INDEX_SCALE"), (5, u "LOG2_ARRAY_CHAR_INDEX_SCALE"), (5, u "LOG2_ARRAY_SHORT_INDEX_SCALE"), (18, u "LOG2_ARRAY_FLOAT_INDEX_SCALE"), (24, u "LOG2_ARRAY_DOUBLE_INDEX_SCALE"), (89, u "T_BOOLEAN"), (2, u "T_CHAR"), (1, u "T_FLOAT"), (1, u "T_DOUBLE"), (1, u "T_BYTE"), (1, u "T_SHORT"), (1, u "T_INT"), (1, u "T_LONG"), (1, u "SOFT_MAX_ARRAY_LENGTH")] 83

def k32m0 : Method := { name := "<init>", desc := "()V", sig := { parameters := [], returnType := none }, accessFlags := 2, code := none }
/-- jdk/internal/util/ArraysSupport -/
def k32 : Class := { plain "jdk/internal/util/ArraysSupport" (some 0) with
  accessFlags := 33
  interfaces := #[]
  cf := some (fileOf pool32 21 #[] #[⟨2, 9, 19, #[]⟩] 33 16 #[] #[⟨24, 28, 29, #[]⟩, ⟨26, 38, 39, #[]⟩, ⟨25, 121, 25, #[]⟩, ⟨25, 131, 25, #[]⟩, ⟨25, 137, 25, #[]⟩, ⟨25, 143, 25, #[]⟩, ⟨25, 53, 25, #[]⟩, ⟨25, 24, 25, #[]⟩, ⟨25, 162, 25, #[]⟩, ⟨25, 187, 25, #[]⟩, ⟨26, 48, 25, #[]⟩, ⟨25, 277, 25, #[]⟩, ⟨25, 280, 25, #[]⟩, ⟨25, 282, 25, #[]⟩, ⟨25, 284, 25, #[]⟩, ⟨25, 286, 25, #[]⟩, ⟨25, 288, 25, #[]⟩, ⟨25, 290, 25, #[]⟩, ⟨25, 292, 25, #[]⟩, ⟨26, 108, 109, #[]⟩, ⟨25, 294, 25, #[]⟩])
  fields := #[⟨"U", (.object "jdk/internal/misc/Unsafe"), 24, 0, 0⟩, ⟨"BIG_ENDIAN", .boolean, 26, 1, 0⟩, ⟨"LOG2_ARRAY_BOOLEAN_INDEX_SCALE", .int, 25, 2, 0⟩, ⟨"LOG2_ARRAY_BYTE_INDEX_SCALE", .int, 25, 3, 0⟩, ⟨"LOG2_ARRAY_CHAR_INDEX_SCALE", .int, 25, 4, 0⟩, ⟨"LOG2_ARRAY_SHORT_INDEX_SCALE", .int, 25, 5, 0⟩, ⟨"LOG2_ARRAY_INT_INDEX_SCALE", .int, 25, 6, 0⟩, ⟨"LOG2_ARRAY_LONG_INDEX_SCALE", .int, 25, 7, 0⟩, ⟨"LOG2_ARRAY_FLOAT_INDEX_SCALE", .int, 25, 8, 0⟩, ⟨"LOG2_ARRAY_DOUBLE_INDEX_SCALE", .int, 25, 9, 0⟩, ⟨"LOG2_BYTE_BIT_SIZE", .int, 26, 10, 0⟩, ⟨"T_BOOLEAN", .int, 25, 11, 0⟩, ⟨"T_CHAR", .int, 25, 12, 0⟩, ⟨"T_FLOAT", .int, 25, 13, 0⟩, ⟨"T_DOUBLE", .int, 25, 14, 0⟩, ⟨"T_BYTE", .int, 25, 15, 0⟩, ⟨"T_SHORT", .int, 25, 16, 0⟩, ⟨"T_INT", .int, 25, 17, 0⟩, ⟨"T_LONG", .int, 25, 18, 0⟩, ⟨"JLA", (.object "jdk/internal/access/JavaLangAccess"), 26, 19, 0⟩, ⟨"SOFT_MAX_ARRAY_LENGTH", .int, 25, 20, 0⟩]
  methods := #[k32m0]
  instanceTypes := #[]
  staticTypes := #[(.object "jdk/internal/misc/Unsafe"), .boolean, .int, .int, .int, .int, .int, .int, .int, .int, .int, .int, .int, .int, .int, .int, .int, .int, .int, (.object "jdk/internal/access/JavaLangAccess"), .int]
  resolved := Array.replicate 378 none
  statics := none }

def pool33 : Array CpInfo := pool [(1, u "java/lang/Class"), (0, .class_ 1), (0, u "java/lang/Object"), (0, .class_ 3)] 3

/-- java/lang/Class -/
def k33 : Class := { plain "java/lang/Class" (some 0) with
  accessFlags := 49
  interfaces := #[]
  cf := some (fileOf pool33 2 #[] #[] 49 4 #[] #[])
  fields := #[]
  methods := #[]
  instanceTypes := #[]
  staticTypes := #[]
  resolved := Array.replicate 8 none
  statics := none }

/-- the primitive byte -/
def k34 : Class := { plain "byte" none with kind := .primitive 'B', accessFlags := 0x411 }
/-- [B -/
def k35 : Class := { plain "[B" (some 0) with kind := .array 34 .byte, interfaces := #[18, 4], accessFlags := 1041 }

/-- the primitive char -/
def k36 : Class := { plain "char" none with kind := .primitive 'C', accessFlags := 0x411 }
/-- [C -/
def k37 : Class := { plain "[C" (some 0) with kind := .array 36 .char, interfaces := #[18, 4], accessFlags := 1041 }

/-- the primitive int -/
def k38 : Class := { plain "int" none with kind := .primitive 'I', accessFlags := 0x411 }
/-- [I -/
def k39 : Class := { plain "[I" (some 0) with kind := .array 38 .int, interfaces := #[18, 4], accessFlags := 1041 }

/-- [Ljava/lang/Object; -/
def k40 : Class := { plain "[Ljava/lang/Object;" (some 0) with mirror := some 4, kind := .array 0 (.object "java/lang/Object"), interfaces := #[18, 4], accessFlags := 1041 }

def heap : Heap := #[{ cls := 9, slots := #[.long 0, .int 1, .null, .int 0, .null, .int 0, .int 0], vm := .statics 9 },
  { cls := 19, slots := #[.long 0, .int 0, .ref 5, .ref 6], vm := .statics 19 },
  { cls := 20, slots := #[.long 0, .int 0, .null, .ref 8, .ref 7, .null, .null, .null, .int 0, .int 1], vm := .statics 20 },
  { cls := 31, slots := #[.null, .null, .null], vm := .statics 31 },
  { cls := 33, slots := #[], vm := .mirror 40 },
  { cls := 40, slots := #[], vm := .none },
  { cls := 40, slots := #[], vm := .none },
  { cls := 24, slots := #[.ref 5, .int 0], vm := .none },
  { cls := 0, slots := #[], vm := .none }]
def classes : Array Class := #[k0, k1, k2, k3, k4, k5, k6, k7, k8, k9, k10, k11, k12, k13, k14, k15, k16, k17, k18, k19, k20, k21, k22, k23, k24, k25, k26, k27, k28, k29, k30, k31, k32, k33, k34, k35, k36, k37, k38, k39, k40]
def interned : List (Array UInt16 × Addr) := []
def slotsUsed : Nat := 26
def theMethod : MethodId := ⟨1, 1⟩
def args0 : Array Value := #[.int 5, .int 6, .int 7, .int 8]
def aboutOver (below : List Frame) : State where
  vm := { classes := classes, interned := interned.toArray }
  heap := heap
  slotsUsed := slotsUsed
  threads := #[{ frames := .invoking theMethod args0 :: below }]
def below0 : List Frame := [.native { method := ⟨0, 0⟩, args := #[] }]
def about1 : State := aboutOver below0
def p0 : Program := .bare "" "" ""
def e0 : Env := launch0.env 0 0 0
theorem w_frames : about1.frames = Frame.invoking theMethod args0 :: below0 := rfl
set_option maxRecDepth 65536 in
theorem w_args : argsFit about1.vm theMethod args0 = true := by decide +kernel
set_option maxRecDepth 65536 in
theorem w_heap : heapFits about1 = true := by decide +kernel
set_option maxRecDepth 65536 in
theorem w_runnable : about1.curStatus? = some .runnable := by decide +kernel
set_option maxRecDepth 65536 in
theorem w_alone : about1.alone = true := by decide +kernel
set_option maxRecDepth 65536 in
theorem w_named : about1.methodNamed? x = some theMethod := by decide +kernel
set_option maxRecDepth 65536 in
theorem w_hears : about1.hears theMethod below0 = true := by decide +kernel
set_option maxRecDepth 65536 in
theorem w_ripe : about1.ripe theMethod args0 below0 = true := by decide +kernel
theorem w_running : about1.status = .running := rfl
set_option maxRecDepth 65536 in
theorem w_room : about1.hasRoom e0.platform room_1 = true :=
  launch0.hasRoom_least _ room_1 (by decide +kernel) (by decide +kernel) (by decide +kernel) (by decide +kernel) (by decide +kernel) (by decide +kernel)
theorem allAtoms_all (ts : List Jvm.Cond) (a : Array Jvm.Value) (st : Jvm.State) : (allAtoms ts).before a st = ts.all (fun c => c.before a st) := by
  induction ts with
  | nil => rfl
  | cons c t ih =>
    show (Jvm.Cond.and c (allAtoms t)).before a st = _
    rw [Jvm.Cond.before_and, ih, List.all_cons]
def words1 : List Jvm.Cond := Jvm.Cond.code x code maxLocals ret :: tables_1
/-- a 'code' word, met by the world's own term for the bytes: nothing is compared byte by byte -/
theorem code_word {y : MethodName} {bytes : ByteArray} {mx : Nat} {rt : Option FieldType} {a : Array Value} {s : State} {m : MethodId} {meth : Method} {c : Code} (h1 : s.methodNamed? y = some m) (h2 : s.vm.method? m = some meth) (h3 : meth.code = some c) (h4 : c.code = bytes)
    (h5 : (c.maxLocals == mx && c.exceptionTable.isEmpty && decide (c.maxStack ≤ mostOperands) && decide (meth.sig.returnType = rt) && !meth.locks && decide (parseMethodDescriptor y.desc = some meth.sig)) = true) : (Jvm.Cond.code y bytes mx rt).before a s = true := by
  simp only [Bool.and_eq_true, beq_iff_eq, Bool.not_eq_true', decide_eq_true_eq] at h5
  obtain ⟨⟨⟨⟨⟨g1, g2⟩, g3⟩, g4⟩, g5⟩, g6⟩ := h5
  simp [Cond.before, Cond.holds, Cond.value, h1, h2, h3, h4, g1, g2, g3, g4, g5, g6]
def isCode : Jvm.Cond → Bool
  | .code _ _ _ _ => true
  | _ => false
theorem all_split {L : List Jvm.Cond} {P : Jvm.Cond → Bool} (h1 : L.all (fun c => isCode c || P c) = true) (h2 : ∀ c ∈ L.filter isCode, P c = true) : L.all P = true := by
  refine List.all_eq_true.mpr fun c hc => ?_
  have h := List.all_eq_true.mp h1 c hc
  rcases Bool.eq_false_or_eq_true (isCode c) with hi | hi
  · exact h2 c (List.mem_filter.mpr ⟨hc, hi⟩)
  · simpa [hi] using h
set_option maxRecDepth 65536 in
theorem w_c0 : (Jvm.Cond.code x code maxLocals ret).before args0 about1 = true := code_word (m := ⟨1, 1⟩) (meth := k1m1) (c := k1c1) (by decide +kernel) rfl rfl rfl (by decide +kernel)
set_option maxRecDepth 65536 in
theorem w_c1 : (Jvm.Cond.code ⟨"com/example/sessn/sessn/log/LoggedSessionCurrentPinLaw", "query", "(I)Lcom/example/sessn/sessn/log/LoggedQuery;"⟩ method_3_code (2 : Nat) (Option.some (Jvm.ClassFile.FieldType.object "com/example/sessn/sessn/log/LoggedQuery"))).before args0 about1 = true := code_word (m := ⟨1, 2⟩) (meth := k1m2) (c := k1c2) (by decide +kernel) rfl rfl rfl (by decide +kernel)
set_option maxRecDepth 65536 in
theorem w_c2 : (Jvm.Cond.code ⟨"java/lang/String", "<init>", "([C)V"⟩ jdk_42_method_3_code (2 : Nat) (Option.none : Option Jvm.ClassFile.FieldType)).before args0 about1 = true := code_word (m := ⟨9, 1⟩) (meth := k9m1) (c := k9c1) (by decide +kernel) rfl rfl rfl (by decide +kernel)
set_option maxRecDepth 65536 in
theorem w_c3 : (Jvm.Cond.code ⟨"java/lang/String", "<init>", "([CIILjava/lang/Void;)V"⟩ jdk_42_method_149_code (6 : Nat) (Option.none : Option Jvm.ClassFile.FieldType)).before args0 about1 = true := code_word (m := ⟨9, 2⟩) (meth := k9m2) (c := k9c2) (by decide +kernel) rfl rfl rfl (by decide +kernel)
set_option maxRecDepth 65536 in
theorem w_c4 : (Jvm.Cond.code ⟨"java/lang/Object", "<init>", "()V"⟩ object_method_1_code (1 : Nat) (Option.none : Option Jvm.ClassFile.FieldType)).before args0 about1 = true := code_word (m := ⟨0, 0⟩) (meth := k0m0) (c := k0c0) (by decide +kernel) rfl rfl rfl (by decide +kernel)
set_option maxRecDepth 65536 in
theorem w_c5 : (Jvm.Cond.code ⟨"java/lang/StringUTF16", "compress", "([CII)[B"⟩ jdk_52_method_16_code (6 : Nat) (Option.some (Jvm.ClassFile.FieldType.array Jvm.ClassFile.FieldType.byte))).before args0 about1 = true := code_word (m := ⟨10, 2⟩) (meth := k10m2) (c := k10c2) (by decide +kernel) rfl rfl rfl (by decide +kernel)
set_option maxRecDepth 65536 in
theorem w_c6 : (Jvm.Cond.code ⟨"java/lang/StringUTF16", "compress", "([CI[BII)I"⟩ jdk_52_method_21_code (7 : Nat) (Option.some Jvm.ClassFile.FieldType.int)).before args0 about1 = true := code_word (m := ⟨10, 3⟩) (meth := k10m3) (c := k10c3) (by decide +kernel) rfl rfl rfl (by decide +kernel)
set_option maxRecDepth 65536 in
theorem w_c7 : (Jvm.Cond.code ⟨"java/lang/StringUTF16", "coderFromArrayLen", "([BI)B"⟩ jdk_52_method_15_code (2 : Nat) (Option.some Jvm.ClassFile.FieldType.byte)).before args0 about1 = true := code_word (m := ⟨10, 1⟩) (meth := k10m1) (c := k10c1) (by decide +kernel) rfl rfl rfl (by decide +kernel)
set_option maxRecDepth 65536 in
theorem w_c8 : (Jvm.Cond.code ⟨"java/util/ArrayList", "<init>", "()V"⟩ jdk_38_method_2_code (1 : Nat) (Option.none : Option Jvm.ClassFile.FieldType)).before args0 about1 = true := code_word (m := ⟨19, 0⟩) (meth := k19m0) (c := k19c0) (by decide +kernel) rfl rfl rfl (by decide +kernel)
set_option maxRecDepth 65536 in
theorem w_c9 : (Jvm.Cond.code ⟨"java/util/AbstractList", "<init>", "()V"⟩ jdk_39_method_1_code (1 : Nat) (Option.none : Option Jvm.ClassFile.FieldType)).before args0 about1 = true := code_word (m := ⟨16, 0⟩) (meth := k16m0) (c := k16c0) (by decide +kernel) rfl rfl rfl (by decide +kernel)
set_option maxRecDepth 65536 in
theorem w_c10 : (Jvm.Cond.code ⟨"java/util/AbstractCollection", "<init>", "()V"⟩ jdk_22_method_1_code (1 : Nat) (Option.none : Option Jvm.ClassFile.FieldType)).before args0 about1 = true := code_word (m := ⟨13, 0⟩) (meth := k13m0) (c := k13c0) (by decide +kernel) rfl rfl rfl (by decide +kernel)
set_option maxRecDepth 65536 in
theorem w_c11 : (Jvm.Cond.code ⟨"com/example/sessn/sessn/log/LoggedQuery", "<init>", "(Ljava/lang/String;Ljava/time/LocalDateTime;Ljava/util/List;Ljava/util/List;)V"⟩ prog_19_method_1_code (5 : Nat) (Option.none : Option Jvm.ClassFile.FieldType)).before args0 about1 = true := code_word (m := ⟨3, 0⟩) (meth := k3m0) (c := k3c0) (by decide +kernel) rfl rfl rfl (by decide +kernel)
set_option maxRecDepth 65536 in
theorem w_c12 : (Jvm.Cond.code ⟨"java/lang/Record", "<init>", "()V"⟩ jdk_30_method_1_code (1 : Nat) (Option.none : Option Jvm.ClassFile.FieldType)).before args0 about1 = true := code_word (m := ⟨2, 0⟩) (meth := k2m0) (c := k2c0) (by decide +kernel) rfl rfl rfl (by decide +kernel)
set_option maxRecDepth 65536 in
theorem w_c13 : (Jvm.Cond.code ⟨"java/util/List", "copyOf", "(Ljava/util/Collection;)Ljava/util/List;"⟩ jdk_40_method_48_code (1 : Nat) (Option.some (Jvm.ClassFile.FieldType.object "java/util/List"))).before args0 about1 = true := code_word (m := ⟨15, 5⟩) (meth := k15m5) (c := k15c5) (by decide +kernel) rfl rfl rfl (by decide +kernel)
set_option maxRecDepth 65536 in
theorem w_c14 : (Jvm.Cond.code ⟨"java/util/ImmutableCollections", "listCopy", "(Ljava/util/Collection;)Ljava/util/List;"⟩ jdk_56_method_3_code (2 : Nat) (Option.some (Jvm.ClassFile.FieldType.object "java/util/List"))).before args0 about1 = true := code_word (m := ⟨20, 1⟩) (meth := k20m1) (c := k20c1) (by decide +kernel) rfl rfl rfl (by decide +kernel)
set_option maxRecDepth 65536 in
theorem w_c15 : (Jvm.Cond.code ⟨"java/util/ArrayList", "isEmpty", "()Z"⟩ jdk_38_method_9_code (1 : Nat) (Option.some Jvm.ClassFile.FieldType.boolean)).before args0 about1 = true := code_word (m := ⟨19, 3⟩) (meth := k19m3) (c := k19c3) (by decide +kernel) rfl rfl rfl (by decide +kernel)
set_option maxRecDepth 65536 in
theorem w_c16 : (Jvm.Cond.code ⟨"java/util/List", "of", "()Ljava/util/List;"⟩ jdk_40_method_36_code (0 : Nat) (Option.some (Jvm.ClassFile.FieldType.object "java/util/List"))).before args0 about1 = true := code_word (m := ⟨15, 3⟩) (meth := k15m3) (c := k15c3) (by decide +kernel) rfl rfl rfl (by decide +kernel)
set_option maxRecDepth 65536 in
theorem w_c17 : (Jvm.Cond.code ⟨"java/util/ArrayList", "add", "(Ljava/lang/Object;)Z"⟩ jdk_38_method_25_code (2 : Nat) (Option.some Jvm.ClassFile.FieldType.boolean)).before args0 about1 = true := code_word (m := ⟨19, 6⟩) (meth := k19m6) (c := k19c6) (by decide +kernel) rfl rfl rfl (by decide +kernel)
set_option maxRecDepth 65536 in
theorem w_c18 : (Jvm.Cond.code ⟨"java/util/ArrayList", "add", "(Ljava/lang/Object;[Ljava/lang/Object;I)V"⟩ jdk_38_method_24_code (4 : Nat) (Option.none : Option Jvm.ClassFile.FieldType)).before args0 about1 = true := code_word (m := ⟨19, 5⟩) (meth := k19m5) (c := k19c5) (by decide +kernel) rfl rfl rfl (by decide +kernel)
set_option maxRecDepth 65536 in
theorem w_c19 : (Jvm.Cond.code ⟨"java/util/ArrayList", "grow", "()[Ljava/lang/Object;"⟩ jdk_38_method_7_code (1 : Nat) (Option.some (Jvm.ClassFile.FieldType.array (Jvm.ClassFile.FieldType.object "java/lang/Object")))).before args0 about1 = true := code_word (m := ⟨19, 2⟩) (meth := k19m2) (c := k19c2) (by decide +kernel) rfl rfl rfl (by decide +kernel)
set_option maxRecDepth 65536 in
theorem w_c20 : (Jvm.Cond.code ⟨"java/util/ArrayList", "grow", "(I)[Ljava/lang/Object;"⟩ jdk_38_method_6_code (4 : Nat) (Option.some (Jvm.ClassFile.FieldType.array (Jvm.ClassFile.FieldType.object "java/lang/Object")))).before args0 about1 = true := code_word (m := ⟨19, 1⟩) (meth := k19m1) (c := k19c1) (by decide +kernel) rfl rfl rfl (by decide +kernel)
set_option maxRecDepth 65536 in
theorem w_c21 : (Jvm.Cond.code ⟨"java/lang/Math", "max", "(II)I"⟩ jdk_29_method_65_code (2 : Nat) (Option.some Jvm.ClassFile.FieldType.int)).before args0 about1 = true := code_word (m := ⟨25, 1⟩) (meth := k25m1) (c := k25c1) (by decide +kernel) rfl rfl rfl (by decide +kernel)
set_option maxRecDepth 65536 in
theorem w_c22 : (Jvm.Cond.code ⟨"com/example/sessn/sessn/log/LoggedSession", "<init>", "(Ljava/lang/String;Ljava/util/List;)V"⟩ prog_20_method_1_code (3 : Nat) (Option.none : Option Jvm.ClassFile.FieldType)).before args0 about1 = true := code_word (m := ⟨26, 0⟩) (meth := k26m0) (c := k26c0) (by decide +kernel) rfl rfl rfl (by decide +kernel)
set_option maxRecDepth 65536 in
theorem w_c23 : (Jvm.Cond.code ⟨"java/util/ArrayList", "toArray", "()[Ljava/lang/Object;"⟩ jdk_38_method_16_code (1 : Nat) (Option.some (Jvm.ClassFile.FieldType.array (Jvm.ClassFile.FieldType.object "java/lang/Object")))).before args0 about1 = true := code_word (m := ⟨19, 4⟩) (meth := k19m4) (c := k19c4) (by decide +kernel) rfl rfl rfl (by decide +kernel)
set_option maxRecDepth 65536 in
theorem w_c24 : (Jvm.Cond.code ⟨"java/util/Arrays", "copyOf", "([Ljava/lang/Object;I)[Ljava/lang/Object;"⟩ jdk_65_method_119_code (2 : Nat) (Option.some (Jvm.ClassFile.FieldType.array (Jvm.ClassFile.FieldType.object "java/lang/Object")))).before args0 about1 = true := code_word (m := ⟨27, 1⟩) (meth := k27m1) (c := k27c1) (by decide +kernel) rfl rfl rfl (by decide +kernel)
set_option maxRecDepth 65536 in
theorem w_c25 : (Jvm.Cond.code ⟨"java/util/Arrays", "copyOf", "([Ljava/lang/Object;ILjava/lang/Class;)[Ljava/lang/Object;"⟩ jdk_65_method_120_code (4 : Nat) (Option.some (Jvm.ClassFile.FieldType.array (Jvm.ClassFile.FieldType.object "java/lang/Object")))).before args0 about1 = true := code_word (m := ⟨27, 2⟩) (meth := k27m2) (c := k27c2) (by decide +kernel) rfl rfl rfl (by decide +kernel)
set_option maxRecDepth 65536 in
theorem w_c26 : (Jvm.Cond.code ⟨"java/lang/Math", "min", "(II)I"⟩ jdk_29_method_69_code (2 : Nat) (Option.some Jvm.ClassFile.FieldType.int)).before args0 about1 = true := code_word (m := ⟨25, 2⟩) (meth := k25m2) (c := k25c2) (by decide +kernel) rfl rfl rfl (by decide +kernel)
set_option maxRecDepth 65536 in
theorem w_c27 : (Jvm.Cond.code ⟨"java/util/List", "of", "([Ljava/lang/Object;)Ljava/util/List;"⟩ jdk_40_method_47_code (2 : Nat) (Option.some (Jvm.ClassFile.FieldType.object "java/util/List"))).before args0 about1 = true := code_word (m := ⟨15, 4⟩) (meth := k15m4) (c := k15c4) (by decide +kernel) rfl rfl rfl (by decide +kernel)
set_option maxRecDepth 65536 in
theorem w_c28 : (Jvm.Cond.code ⟨"java/util/ImmutableCollections$List12", "<init>", "(Ljava/lang/Object;)V"⟩ jdk_44_method_1_code (2 : Nat) (Option.none : Option Jvm.ClassFile.FieldType)).before args0 about1 = true := code_word (m := ⟨23, 0⟩) (meth := k23m0) (c := k23c0) (by decide +kernel) rfl rfl rfl (by decide +kernel)
set_option maxRecDepth 65536 in
theorem w_c29 : (Jvm.Cond.code ⟨"java/util/ImmutableCollections$AbstractImmutableList", "<init>", "()V"⟩ jdk_46_method_1_code (1 : Nat) (Option.none : Option Jvm.ClassFile.FieldType)).before args0 about1 = true := code_word (m := ⟨22, 0⟩) (meth := k22m0) (c := k22c0) (by decide +kernel) rfl rfl rfl (by decide +kernel)
set_option maxRecDepth 65536 in
theorem w_c30 : (Jvm.Cond.code ⟨"java/util/ImmutableCollections$AbstractImmutableCollection", "<init>", "()V"⟩ jdk_47_method_1_code (1 : Nat) (Option.none : Option Jvm.ClassFile.FieldType)).before args0 about1 = true := code_word (m := ⟨21, 0⟩) (meth := k21m0) (c := k21c0) (by decide +kernel) rfl rfl rfl (by decide +kernel)
set_option maxRecDepth 65536 in
theorem w_c31 : (Jvm.Cond.code ⟨"java/util/Objects", "requireNonNull", "(Ljava/lang/Object;)Ljava/lang/Object;"⟩ jdk_31_method_10_code (1 : Nat) (Option.some (Jvm.ClassFile.FieldType.object "java/lang/Object"))).before args0 about1 = true := code_word (m := ⟨29, 1⟩) (meth := k29m1) (c := k29c1) (by decide +kernel) rfl rfl rfl (by decide +kernel)
set_option maxRecDepth 65536 in
theorem w_c32 : (Jvm.Cond.code ⟨"com/example/sessn/sessn/log/LoggedSession", "current", "()Lcom/example/sessn/sessn/log/LoggedQuery;"⟩ prog_20_method_3_code (1 : Nat) (Option.some (Jvm.ClassFile.FieldType.object "com/example/sessn/sessn/log/LoggedQuery"))).before args0 about1 = true := code_word (m := ⟨26, 1⟩) (meth := k26m1) (c := k26c1) (by decide +kernel) rfl rfl rfl (by decide +kernel)
set_option maxRecDepth 65536 in
theorem w_c33 : (Jvm.Cond.code ⟨"java/util/ImmutableCollections$List12", "size", "()I"⟩ jdk_44_method_3_code (1 : Nat) (Option.some Jvm.ClassFile.FieldType.int)).before args0 about1 = true := code_word (m := ⟨23, 2⟩) (meth := k23m2) (c := k23c2) (by decide +kernel) rfl rfl rfl (by decide +kernel)
set_option maxRecDepth 65536 in
theorem w_c34 : (Jvm.Cond.code ⟨"java/util/ImmutableCollections$List12", "get", "(I)Ljava/lang/Object;"⟩ jdk_44_method_5_code (2 : Nat) (Option.some (Jvm.ClassFile.FieldType.object "java/lang/Object"))).before args0 about1 = true := code_word (m := ⟨23, 3⟩) (meth := k23m3) (c := k23c3) (by decide +kernel) rfl rfl rfl (by decide +kernel)
set_option maxRecDepth 65536 in
theorem w_c35 : (Jvm.Cond.code ⟨"java/util/ImmutableCollections$List12", "<init>", "(Ljava/lang/Object;Ljava/lang/Object;)V"⟩ jdk_44_method_2_code (3 : Nat) (Option.none : Option Jvm.ClassFile.FieldType)).before args0 about1 = true := code_word (m := ⟨23, 1⟩) (meth := k23m1) (c := k23c1) (by decide +kernel) rfl rfl rfl (by decide +kernel)
set_option maxRecDepth 65536 in
theorem w_c36 : (Jvm.Cond.code ⟨"java/util/ImmutableCollections", "listFromArray", "([Ljava/lang/Object;)Ljava/util/List;"⟩ jdk_56_method_4_code (3 : Nat) (Option.some (Jvm.ClassFile.FieldType.object "java/util/List"))).before args0 about1 = true := code_word (m := ⟨20, 2⟩) (meth := k20m2) (c := k20c2) (by decide +kernel) rfl rfl rfl (by decide +kernel)
set_option maxRecDepth 65536 in
theorem w_c37 : (Jvm.Cond.code ⟨"java/util/ImmutableCollections$ListN", "<init>", "([Ljava/lang/Object;Z)V"⟩ jdk_45_method_1_code (3 : Nat) (Option.none : Option Jvm.ClassFile.FieldType)).before args0 about1 = true := code_word (m := ⟨24, 0⟩) (meth := k24m0) (c := k24c0) (by decide +kernel) rfl rfl rfl (by decide +kernel)
set_option maxRecDepth 65536 in
theorem w_c38 : (Jvm.Cond.code ⟨"java/util/ImmutableCollections$ListN", "size", "()I"⟩ jdk_45_method_3_code (1 : Nat) (Option.some Jvm.ClassFile.FieldType.int)).before args0 about1 = true := code_word (m := ⟨24, 1⟩) (meth := k24m1) (c := k24c1) (by decide +kernel) rfl rfl rfl (by decide +kernel)
set_option maxRecDepth 65536 in
theorem w_c39 : (Jvm.Cond.code ⟨"java/util/ImmutableCollections$ListN", "get", "(I)Ljava/lang/Object;"⟩ jdk_45_method_4_code (2 : Nat) (Option.some (Jvm.ClassFile.FieldType.object "java/lang/Object"))).before args0 about1 = true := code_word (m := ⟨24, 2⟩) (meth := k24m2) (c := k24c2) (by decide +kernel) rfl rfl rfl (by decide +kernel)
def codes1 : List Jvm.Cond := [Jvm.Cond.code x code maxLocals ret, Jvm.Cond.code ⟨"com/example/sessn/sessn/log/LoggedSessionCurrentPinLaw", "query", "(I)Lcom/example/sessn/sessn/log/LoggedQuery;"⟩ method_3_code (2 : Nat) (Option.some (Jvm.ClassFile.FieldType.object "com/example/sessn/sessn/log/LoggedQuery")), Jvm.Cond.code ⟨"java/lang/String", "<init>", "([C)V"⟩ jdk_42_method_3_code (2 : Nat) (Option.none : Option Jvm.ClassFile.FieldType), Jvm.Cond.code ⟨"java/lang/String", "<init>", "([CIILjava/lang/Void;)V"⟩ jdk_42_method_149_code (6 : Nat) (Option.none : Option Jvm.ClassFile.FieldType), Jvm.Cond.code ⟨"java/lang/Object", "<init>", "()V"⟩ object_method_1_code (1 : Nat) (Option.none : Option Jvm.ClassFile.FieldType), Jvm.Cond.code ⟨"java/lang/StringUTF16", "compress", "([CII)[B"⟩ jdk_52_method_16_code (6 : Nat) (Option.some (Jvm.ClassFile.FieldType.array Jvm.ClassFile.FieldType.byte)), Jvm.Cond.code ⟨"java/lang/StringUTF16", "compress", "([CI[BII)I"⟩ jdk_52_method_21_code (7 : Nat) (Option.some Jvm.ClassFile.FieldType.int), Jvm.Cond.code ⟨"java/lang/StringUTF16", "coderFromArrayLen", "([BI)B"⟩ jdk_52_method_15_code (2 : Nat) (Option.some Jvm.ClassFile.FieldType.byte), Jvm.Cond.code ⟨"java/util/ArrayList", "<init>", "()V"⟩ jdk_38_method_2_code (1 : Nat) (Option.none : Option Jvm.ClassFile.FieldType), Jvm.Cond.code ⟨"java/util/AbstractList", "<init>", "()V"⟩ jdk_39_method_1_code (1 : Nat) (Option.none : Option Jvm.ClassFile.FieldType), Jvm.Cond.code ⟨"java/util/AbstractCollection", "<init>", "()V"⟩ jdk_22_method_1_code (1 : Nat) (Option.none : Option Jvm.ClassFile.FieldType), Jvm.Cond.code ⟨"com/example/sessn/sessn/log/LoggedQuery", "<init>", "(Ljava/lang/String;Ljava/time/LocalDateTime;Ljava/util/List;Ljava/util/List;)V"⟩ prog_19_method_1_code (5 : Nat) (Option.none : Option Jvm.ClassFile.FieldType), Jvm.Cond.code ⟨"java/lang/Record", "<init>", "()V"⟩ jdk_30_method_1_code (1 : Nat) (Option.none : Option Jvm.ClassFile.FieldType), Jvm.Cond.code ⟨"java/util/List", "copyOf", "(Ljava/util/Collection;)Ljava/util/List;"⟩ jdk_40_method_48_code (1 : Nat) (Option.some (Jvm.ClassFile.FieldType.object "java/util/List")), Jvm.Cond.code ⟨"java/util/ImmutableCollections", "listCopy", "(Ljava/util/Collection;)Ljava/util/List;"⟩ jdk_56_method_3_code (2 : Nat) (Option.some (Jvm.ClassFile.FieldType.object "java/util/List")), Jvm.Cond.code ⟨"java/util/ArrayList", "isEmpty", "()Z"⟩ jdk_38_method_9_code (1 : Nat) (Option.some Jvm.ClassFile.FieldType.boolean), Jvm.Cond.code ⟨"java/util/List", "of", "()Ljava/util/List;"⟩ jdk_40_method_36_code (0 : Nat) (Option.some (Jvm.ClassFile.FieldType.object "java/util/List")), Jvm.Cond.code ⟨"java/util/ArrayList", "add", "(Ljava/lang/Object;)Z"⟩ jdk_38_method_25_code (2 : Nat) (Option.some Jvm.ClassFile.FieldType.boolean), Jvm.Cond.code ⟨"java/util/ArrayList", "add", "(Ljava/lang/Object;[Ljava/lang/Object;I)V"⟩ jdk_38_method_24_code (4 : Nat) (Option.none : Option Jvm.ClassFile.FieldType), Jvm.Cond.code ⟨"java/util/ArrayList", "grow", "()[Ljava/lang/Object;"⟩ jdk_38_method_7_code (1 : Nat) (Option.some (Jvm.ClassFile.FieldType.array (Jvm.ClassFile.FieldType.object "java/lang/Object"))), Jvm.Cond.code ⟨"java/util/ArrayList", "grow", "(I)[Ljava/lang/Object;"⟩ jdk_38_method_6_code (4 : Nat) (Option.some (Jvm.ClassFile.FieldType.array (Jvm.ClassFile.FieldType.object "java/lang/Object"))), Jvm.Cond.code ⟨"java/lang/Math", "max", "(II)I"⟩ jdk_29_method_65_code (2 : Nat) (Option.some Jvm.ClassFile.FieldType.int), Jvm.Cond.code ⟨"com/example/sessn/sessn/log/LoggedSession", "<init>", "(Ljava/lang/String;Ljava/util/List;)V"⟩ prog_20_method_1_code (3 : Nat) (Option.none : Option Jvm.ClassFile.FieldType), Jvm.Cond.code ⟨"java/util/ArrayList", "toArray", "()[Ljava/lang/Object;"⟩ jdk_38_method_16_code (1 : Nat) (Option.some (Jvm.ClassFile.FieldType.array (Jvm.ClassFile.FieldType.object "java/lang/Object"))), Jvm.Cond.code ⟨"java/util/Arrays", "copyOf", "([Ljava/lang/Object;I)[Ljava/lang/Object;"⟩ jdk_65_method_119_code (2 : Nat) (Option.some (Jvm.ClassFile.FieldType.array (Jvm.ClassFile.FieldType.object "java/lang/Object"))), Jvm.Cond.code ⟨"java/util/Arrays", "copyOf", "([Ljava/lang/Object;ILjava/lang/Class;)[Ljava/lang/Object;"⟩ jdk_65_method_120_code (4 : Nat) (Option.some (Jvm.ClassFile.FieldType.array (Jvm.ClassFile.FieldType.object "java/lang/Object"))), Jvm.Cond.code ⟨"java/lang/Math", "min", "(II)I"⟩ jdk_29_method_69_code (2 : Nat) (Option.some Jvm.ClassFile.FieldType.int), Jvm.Cond.code ⟨"java/util/List", "of", "([Ljava/lang/Object;)Ljava/util/List;"⟩ jdk_40_method_47_code (2 : Nat) (Option.some (Jvm.ClassFile.FieldType.object "java/util/List")), Jvm.Cond.code ⟨"java/util/ImmutableCollections$List12", "<init>", "(Ljava/lang/Object;)V"⟩ jdk_44_method_1_code (2 : Nat) (Option.none : Option Jvm.ClassFile.FieldType), Jvm.Cond.code ⟨"java/util/ImmutableCollections$AbstractImmutableList", "<init>", "()V"⟩ jdk_46_method_1_code (1 : Nat) (Option.none : Option Jvm.ClassFile.FieldType), Jvm.Cond.code ⟨"java/util/ImmutableCollections$AbstractImmutableCollection", "<init>", "()V"⟩ jdk_47_method_1_code (1 : Nat) (Option.none : Option Jvm.ClassFile.FieldType), Jvm.Cond.code ⟨"java/util/Objects", "requireNonNull", "(Ljava/lang/Object;)Ljava/lang/Object;"⟩ jdk_31_method_10_code (1 : Nat) (Option.some (Jvm.ClassFile.FieldType.object "java/lang/Object")), Jvm.Cond.code ⟨"com/example/sessn/sessn/log/LoggedSession", "current", "()Lcom/example/sessn/sessn/log/LoggedQuery;"⟩ prog_20_method_3_code (1 : Nat) (Option.some (Jvm.ClassFile.FieldType.object "com/example/sessn/sessn/log/LoggedQuery")), Jvm.Cond.code ⟨"java/util/ImmutableCollections$List12", "size", "()I"⟩ jdk_44_method_3_code (1 : Nat) (Option.some Jvm.ClassFile.FieldType.int), Jvm.Cond.code ⟨"java/util/ImmutableCollections$List12", "get", "(I)Ljava/lang/Object;"⟩ jdk_44_method_5_code (2 : Nat) (Option.some (Jvm.ClassFile.FieldType.object "java/lang/Object")), Jvm.Cond.code ⟨"java/util/ImmutableCollections$List12", "<init>", "(Ljava/lang/Object;Ljava/lang/Object;)V"⟩ jdk_44_method_2_code (3 : Nat) (Option.none : Option Jvm.ClassFile.FieldType), Jvm.Cond.code ⟨"java/util/ImmutableCollections", "listFromArray", "([Ljava/lang/Object;)Ljava/util/List;"⟩ jdk_56_method_4_code (3 : Nat) (Option.some (Jvm.ClassFile.FieldType.object "java/util/List")), Jvm.Cond.code ⟨"java/util/ImmutableCollections$ListN", "<init>", "([Ljava/lang/Object;Z)V"⟩ jdk_45_method_1_code (3 : Nat) (Option.none : Option Jvm.ClassFile.FieldType), Jvm.Cond.code ⟨"java/util/ImmutableCollections$ListN", "size", "()I"⟩ jdk_45_method_3_code (1 : Nat) (Option.some Jvm.ClassFile.FieldType.int), Jvm.Cond.code ⟨"java/util/ImmutableCollections$ListN", "get", "(I)Ljava/lang/Object;"⟩ jdk_45_method_4_code (2 : Nat) (Option.some (Jvm.ClassFile.FieldType.object "java/lang/Object"))]
set_option maxRecDepth 65536 in
theorem codes_eq : words1.filter isCode = codes1 := rfl
theorem w_codes : ∀ c ∈ words1.filter isCode, c.before args0 about1 = true := by
  rw [codes_eq]
  intro c hc
  simp only [codes1, List.mem_cons, List.not_mem_nil, or_false] at hc
  rcases hc with rfl | rfl | rfl | rfl | rfl | rfl | rfl | rfl | rfl | rfl | rfl | rfl | rfl | rfl | rfl | rfl | rfl | rfl | rfl | rfl | rfl | rfl | rfl | rfl | rfl | rfl | rfl | rfl | rfl | rfl | rfl | rfl | rfl | rfl | rfl | rfl | rfl | rfl | rfl | rfl
  · exact w_c0
  · exact w_c1
  · exact w_c2
  · exact w_c3
  · exact w_c4
  · exact w_c5
  · exact w_c6
  · exact w_c7
  · exact w_c8
  · exact w_c9
  · exact w_c10
  · exact w_c11
  · exact w_c12
  · exact w_c13
  · exact w_c14
  · exact w_c15
  · exact w_c16
  · exact w_c17
  · exact w_c18
  · exact w_c19
  · exact w_c20
  · exact w_c21
  · exact w_c22
  · exact w_c23
  · exact w_c24
  · exact w_c25
  · exact w_c26
  · exact w_c27
  · exact w_c28
  · exact w_c29
  · exact w_c30
  · exact w_c31
  · exact w_c32
  · exact w_c33
  · exact w_c34
  · exact w_c35
  · exact w_c36
  · exact w_c37
  · exact w_c38
  · exact w_c39
set_option maxRecDepth 65536 in
theorem w_t1 : (words1.take 24).all (fun c => isCode c || c.before args0 about1) = true := by decide +kernel
set_option maxRecDepth 65536 in
theorem w_t2 : ((words1.drop 24).take 24).all (fun c => isCode c || c.before args0 about1) = true := by decide +kernel
set_option maxRecDepth 65536 in
theorem w_t3 : (((words1.drop 24).drop 24).take 24).all (fun c => isCode c || c.before args0 about1) = true := by decide +kernel
set_option maxRecDepth 65536 in
theorem w_t4 : ((((words1.drop 24).drop 24).drop 24).take 24).all (fun c => isCode c || c.before args0 about1) = true := by decide +kernel
set_option maxRecDepth 65536 in
theorem w_t5 : (((((words1.drop 24).drop 24).drop 24).drop 24).take 24).all (fun c => isCode c || c.before args0 about1) = true := by decide +kernel
set_option maxRecDepth 65536 in
theorem w_t6 : ((((((words1.drop 24).drop 24).drop 24).drop 24).drop 24).take 24).all (fun c => isCode c || c.before args0 about1) = true := by decide +kernel
set_option maxRecDepth 65536 in
theorem w_t7 : (((((((words1.drop 24).drop 24).drop 24).drop 24).drop 24).drop 24).take 24).all (fun c => isCode c || c.before args0 about1) = true := by decide +kernel
set_option maxRecDepth 65536 in
theorem w_t8 : ((((((((words1.drop 24).drop 24).drop 24).drop 24).drop 24).drop 24).drop 24).take 24).all (fun c => isCode c || c.before args0 about1) = true := by decide +kernel
set_option maxRecDepth 65536 in
theorem w_t9 : (((((((((words1.drop 24).drop 24).drop 24).drop 24).drop 24).drop 24).drop 24).drop 24).take 24).all (fun c => isCode c || c.before args0 about1) = true := by decide +kernel
set_option maxRecDepth 65536 in
theorem w_t10 : ((((((((((words1.drop 24).drop 24).drop 24).drop 24).drop 24).drop 24).drop 24).drop 24).drop 24).take 24).all (fun c => isCode c || c.before args0 about1) = true := by decide +kernel
set_option maxRecDepth 65536 in
theorem w_t11 : (((((((((((words1.drop 24).drop 24).drop 24).drop 24).drop 24).drop 24).drop 24).drop 24).drop 24).drop 24).take 24).all (fun c => isCode c || c.before args0 about1) = true := by decide +kernel
set_option maxRecDepth 65536 in
theorem w_t12 : (((((((((((words1.drop 24).drop 24).drop 24).drop 24).drop 24).drop 24).drop 24).drop 24).drop 24).drop 24).drop 24).all (fun c => isCode c || c.before args0 about1) = true := by decide +kernel
theorem w_tables : (allAtoms (Jvm.Cond.code x code maxLocals ret :: tables_1)).before args0 about1 = true := by
  rw [allAtoms_all]
  show words1.all (fun c => c.before args0 about1) = true
  refine all_split ?_ w_codes
  rw [← List.take_append_drop 24 words1, List.all_append, w_t1, ← List.take_append_drop 24 (words1.drop 24), List.all_append, w_t2, ← List.take_append_drop 24 ((words1.drop 24).drop 24), List.all_append, w_t3, ← List.take_append_drop 24 (((words1.drop 24).drop 24).drop 24), List.all_append, w_t4, ← List.take_append_drop 24 ((((words1.drop 24).drop 24).drop 24).drop 24), List.all_append, w_t5, ← List.take_append_drop 24 (((((words1.drop 24).drop 24).drop 24).drop 24).drop 24), List.all_append, w_t6, ← List.take_append_drop 24 ((((((words1.drop 24).drop 24).drop 24).drop 24).drop 24).drop 24), List.all_append, w_t7, ← List.take_append_drop 24 (((((((words1.drop 24).drop 24).drop 24).drop 24).drop 24).drop 24).drop 24), List.all_append, w_t8, ← List.take_append_drop 24 ((((((((words1.drop 24).drop 24).drop 24).drop 24).drop 24).drop 24).drop 24).drop 24), List.all_append, w_t9, ← List.take_append_drop 24 (((((((((words1.drop 24).drop 24).drop 24).drop 24).drop 24).drop 24).drop 24).drop 24).drop 24), List.all_append, w_t10, ← List.take_append_drop 24 ((((((((((words1.drop 24).drop 24).drop 24).drop 24).drop 24).drop 24).drop 24).drop 24).drop 24).drop 24), List.all_append, w_t11, w_t12]
  rfl
set_option maxRecDepth 65536 in
theorem w_rest : rest_1_c.before args0 about1 = true := by decide +kernel
set_option maxRecDepth 65536 in
theorem w_case : (Jvm.Cond.and given_1 narrow_1).before args0 about1 = true := by decide +kernel
theorem w_applies : (headSpec (Jvm.Cond.code x code maxLocals ret :: tables_1) room_1).applies x e0.platform about1 = true :=
  (Spec.applies_iff w_frames).mpr ⟨w_running, w_runnable, w_alone, w_named, w_hears, w_ripe, w_room, w_tables⟩
theorem atStart : AtStart classFile x code maxLocals ret World_1 tables_1 room_1 Calls_1 rest_1 Pre_1 launch0 p0 e0 about1 theMethod args0 below0 :=
  ⟨lists_1, trivial, launch0.admits_env _ _ _, launch0.least_env, fairChoices_fair.cas, fairChoices_fair.clock, w_frames, w_args, w_heap, w_applies, ⟨⟨40, k40, 4, by decide +kernel, rfl, rfl, _, rfl, rfl⟩, trivial⟩, w_rest, w_case⟩
end start1
theorem witness_1 : WitnessClaimed_1 := ⟨start1.p0, start1.e0, start1.about1, start1.theMethod, start1.args0, start1.below0, start1.atStart⟩
end Jvm.Pilot.@@N@@
