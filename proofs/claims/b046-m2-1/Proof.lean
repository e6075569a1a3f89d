import JvmDerived
import JvmDerived.Pilot.@@N@@Statement
import JvmDerived.Pilot.@@N@@Code
set_option linter.unusedVariables false
set_option linter.unusedSimpArgs false
/- laws to paste: Road.backV, Road.eqW (cut by pick.py; bodies as the Statement names them) -/
namespace Jvm.Pilot.@@N@@
namespace StrChars
open Jvm Sem ClassFile Op Lib Jvm.Stand Jvm.Free.XT Jvm.Free.ALB Jvm.Free.JM Jvm.Free
open Jvm.Lib.Cold (StaticIs)
/-- a char array whose places are chars -/
def Ch (a : Addr) (A : Cell) (U : State) : Prop := Arr .char a A U ∧ Typed .char A
theorem Ch.mv {a : Addr} {A : Cell} {U U' : State} (h : Ch a A U) (hal : U.vm.Alike U'.vm) (hh : U'.heap = U.heap) : Ch a A U' := ⟨h.1.mv hal hh, h.2⟩
theorem Ch.keep {a : Addr} {A : Cell} {U U' : State} (h : Ch a A U) (hal : U.vm.Alike U'.vm) (hk : U'.heap[a]? = some A) : Ch a A U' := ⟨h.1.keep hal hk, h.2⟩
/-- what place i of a char[]'s cell holds -/
def cv (A : Cell) (i : Nat) : Int32 := match A.slots[i]? with | some (.int x) => x | _ => 0
theorem Ch.get {a : Addr} {A : Cell} {U : State} (h : Ch a A U) {i : Nat} (hi : i < A.slots.size) : A.slots[i]? = some (.int (cv A i)) := by
  have e := Array.getElem?_eq_getElem hi
  have f := h.2 i _ e
  unfold cv; rw [e]
  generalize A.slots[i] = v at f
  cases v <;> simp [fits] at f ⊢
/-- the byte that i2b leaves of a char -/
def lo8 (x : Int32) : Int32 := x.toInt8.toInt32
theorem fits_lo8 (y : Int32) : fits .byte (.int (lo8 y)) = true := by
  have h1 := y.toInt8.le_toInt
  have h2 := y.toInt8.toInt_lt
  simp only [lo8, fits, Bool.and_eq_true, decide_eq_true_eq, Int32.le_iff_toInt_le, Int8.toInt_toInt32, show (-128 : Int32).toInt = -128 from by decide, show (127 : Int32).toInt = 127 from by decide]
  omega
/-- A' is A but that each place j of lo .. hi - 1 holds f j -/
def Laid (A A' : Cell) (lo hi : Nat) (f : Nat → Value) : Prop := A'.cls = A.cls ∧ A'.vm = A.vm ∧ A'.slots.size = A.slots.size ∧ ∀ i, A'.slots[i]? = if lo ≤ i ∧ i < hi then some (f i) else A.slots[i]?
theorem Laid.zero (A : Cell) (lo : Nat) (f : Nat → Value) : Laid A A lo (lo + 0) f := ⟨rfl, rfl, rfl, fun i => by rw [if_neg (by omega)]⟩
theorem Laid.step {A Ak : Cell} {lo k : Nat} {f : Nat → Value} {v : Value} (h : Laid A Ak lo k f) (hlo : lo ≤ k) (hk : k < Ak.slots.size) (hv : v = f k) : Laid A (Ak.setSlot k v) lo (k + 1) f := by
  refine ⟨h.1, h.2.1, by simpa [Cell.setSlot] using h.2.2.1, fun i => ?_⟩
  by_cases e : k = i
  · subst e; rw [Cell.slots_setSlot_self v hk, if_pos (by omega), hv]
  · rw [Cell.slots_setSlot_ne v e, h.2.2.2 i]
    by_cases q : lo ≤ i ∧ i < k
    · rw [if_pos q, if_pos (by omega)]
    · rw [if_neg q, if_neg (by omega)]
def U16 : String := "java/lang/StringUTF16"
namespace Cmp5
def yN : MethodName := ⟨"java/lang/StringUTF16", "compress", "([CI[BII)I"⟩
abbrev yB : ByteArray := jdk_52_method_21_code
theorem d0 : decode yB 0 = .ok (.iconst 0, 1) := by decide +kernel
theorem d1 : decode yB 1 = .ok (.istore 5, 2) := by decide +kernel
theorem d3 : decode yB 3 = .ok (.iload 5, 2) := by decide +kernel
theorem d5 : decode yB 5 = .ok (.iload 4, 2) := by decide +kernel
theorem d7 : decode yB 7 = .ok (.if_icmp (.ge) 37, 3) := by decide +kernel
theorem d10 : decode yB 10 = .ok (.aload_n 0, 1) := by decide +kernel
theorem d11 : decode yB 11 = .ok (.iload_n 1, 1) := by decide +kernel
theorem d12 : decode yB 12 = .ok (.caload, 1) := by decide +kernel
theorem d13 : decode yB 13 = .ok (.istore 6, 2) := by decide +kernel
theorem d15 : decode yB 15 = .ok (.iload 6, 2) := by decide +kernel
theorem d17 : decode yB 17 = .ok (.sipush 255, 3) := by decide +kernel
theorem d20 : decode yB 20 = .ok (.if_icmp (.le) 6, 3) := by decide +kernel
theorem d26 : decode yB 26 = .ok (.aload_n 2, 1) := by decide +kernel
theorem d27 : decode yB 27 = .ok (.iload_n 3, 1) := by decide +kernel
theorem d28 : decode yB 28 = .ok (.iload 6, 2) := by decide +kernel
theorem d30 : decode yB 30 = .ok (.i2b, 1) := by decide +kernel
theorem d31 : decode yB 31 = .ok (.bastore, 1) := by decide +kernel
theorem d32 : decode yB 32 = .ok (.iinc 1 1, 3) := by decide +kernel
theorem d35 : decode yB 35 = .ok (.iinc 3 1, 3) := by decide +kernel
theorem d38 : decode yB 38 = .ok (.iinc 5 1, 3) := by decide +kernel
theorem d41 : decode yB 41 = .ok (.goto (-38), 3) := by decide +kernel
theorem d44 : decode yB 44 = .ok (.iload 4, 2) := by decide +kernel
theorem d46 : decode yB 46 = .ok (.ireturn, 1) := by decide +kernel
def site : List Cond := []
def tab : Cond := tabOf yN yB 7 (some .int) site
def P (b : Addr) (A : Cell) (d : Addr) (B : Cell) (o q len : Nat) (args : Array Value) (s : State) : Prop := args = #[.ref b, .int (Int32.ofNat o), .ref d, .int (Int32.ofNat q), .int (Int32.ofNat len)] ∧ Ch b A s ∧ Arr .byte d B s ∧ b ≠ d ∧ o + len ≤ A.slots.size ∧ q + len ≤ B.slots.size ∧ ∀ i, i < len → ¬ 255 < cv A (o + i)
def E (b : Addr) (A : Cell) (d : Addr) (B : Cell) (o q len : Nat) (r : Option Value) (s u : State) : Prop := r = some (.int (Int32.ofNat len)) ∧ ∃ B', Put d B' s u ∧ Laid B B' q (q + len) (fun j => Value.int (lo8 (cv A (o + (j - q)))))
/-- no char of the range above 255: len; the places written hold each char's low byte -/
theorem law (l : Launch) (b : Addr) (A : Cell) (d : Addr) (B : Cell) (o q len : Nat) : Law l yN 5 5 0 0 yB 7 (some .int) site (P b A d B o q len) (E b A d B o q len) (copyLocs d q len) 0 0 := by
  refine Law.of_walk (plainFor_of_name (by decide +kernel)) (by decide +kernel) (by decide +kernel) (by decide) (fun _ _ h => by rw [h.1]; rfl) (fun _ U U' hal hh h => ⟨h.1, h.2.1.mv hal hh, h.2.2.1.mv hal hh, h.2.2.2⟩) (fun r U U' V V' h1 hal h2 h => ⟨h.1, h.2.elim fun B' q => ⟨B', q.1.mv h1 h2, q.2⟩⟩) ?_
  intro p e s m args below meth c s₁ X0 hexec hbytes hml hret hlk hnm hown hh0 W hP
  obtain ⟨rfl, hA, hB, hne, l1, l2, hp⟩ := hP
  have c1 : Steps p.tables e below (s₁.setTop (entryFrame m #[.ref b, .int (Int32.ofNat o), .ref d, .int (Int32.ofNat q), .int (Int32.ofNat len)] 7)) (s₁.setTop (mkF m 0 #[.val (.ref b), .val (.int (Int32.ofNat o)), .val (.ref d), .val (.int (Int32.ofNat q)), .val (.int (Int32.ofNat len)), .unset, .unset] [])) := entry rfl
  have hA0 := hA.1.mv X0.warmed.alike hh0
  have hB0 := hB.mv X0.warmed.alike hh0
  have a31 := hA.1.2.2.2
  have c2 : Steps p.tables e below (s₁.setTop (entryFrame m #[.ref b, .int (Int32.ofNat o), .ref d, .int (Int32.ofNat q), .int (Int32.ofNat len)] 7)) (s₁.setTop (mkF m 3 #[.val (.ref b), .val (.int (Int32.ofNat o)), .val (.ref d), .val (.int (Int32.ofNat q)), .val (.int (Int32.ofNat len)), .val (.int 0), .unset] [])) := c1.trans (by
    refine iconstV X0.here hexec rfl 0 (hb hbytes d0) (by decide) ?_
    refine XS.istore X0.here hexec rfl (hb hbytes d1) rfl rfl ?_
    exact Steps.refl _)
  have loop : ∀ (r i : Nat), i + r = len → ∀ (z : Slot), (z = .unset ∨ ∃ w, z = .val w ∧ w.category = 1) → ∀ (Tl : State) (Bk : Cell), Stand p l e { frames := 0, locals := 0, cells := 0, slots := 0 } s m #[.ref b, .int (Int32.ofNat o), .ref d, .int (Int32.ofNat q), .int (Int32.ofNat len)] below meth c Tl ([] ++ copyLocs d q i) 0 0 → Put d Bk s₁ Tl → Laid B Bk q (q + i) (fun j => Value.int (lo8 (cv A (o + (j - q))))) →
      Steps p.tables e below (s₁.setTop (entryFrame m #[.ref b, .int (Int32.ofNat o), .ref d, .int (Int32.ofNat q), .int (Int32.ofNat len)] 7)) (Tl.setTop (mkF m 3 #[.val (.ref b), .val (.int (Int32.ofNat (o + i))), .val (.ref d), .val (.int (Int32.ofNat (q + i))), .val (.int (Int32.ofNat len)), .val (.int (Int32.ofNat i)), z] [])) → ∃ (T' : State) (B' : Cell) (z' : Slot), Stand p l e { frames := 0, locals := 0, cells := 0, slots := 0 } s m #[.ref b, .int (Int32.ofNat o), .ref d, .int (Int32.ofNat q), .int (Int32.ofNat len)] below meth c T' ([] ++ copyLocs d q len) 0 0 ∧ Put d B' s₁ T' ∧ Laid B B' q (q + len) (fun j => Value.int (lo8 (cv A (o + (j - q))))) ∧
      Steps p.tables e below (s₁.setTop (entryFrame m #[.ref b, .int (Int32.ofNat o), .ref d, .int (Int32.ofNat q), .int (Int32.ofNat len)] 7)) (T'.setTop (mkF m 3 #[.val (.ref b), .val (.int (Int32.ofNat (o + len))), .val (.ref d), .val (.int (Int32.ofNat (q + len))), .val (.int (Int32.ofNat len)), .val (.int (Int32.ofNat len)), z'] [])) := by
    intro r
    induction r with
    | zero =>
      intro i hi z hz Tl Bk Xl pl fl cl
      have hil : i = len := by omega
      rw [hil] at Xl fl cl
      exact ⟨Tl, Bk, z, Xl, pl, fl, cl⟩
    | succ r ih =>
      intro i hi z hz Tl Bk Xl pl fl cl
      have all := X0.warmed.alike.symm.trans Xl.warmed.alike
      have hAl := hA0.keep all (pl.other hne hA0.1)
      have hBk := hB0.like all pl.1 fl.1 fl.2.1 fl.2.2.1
      have hlt : q + i < Bk.slots.size := by rw [fl.2.2.1]; omega
      have c3 : Steps p.tables e below (s₁.setTop (entryFrame m #[.ref b, .int (Int32.ofNat o), .ref d, .int (Int32.ofNat q), .int (Int32.ofNat len)] 7)) (Tl.setTop (mkF m 12 #[.val (.ref b), .val (.int (Int32.ofNat (o + i))), .val (.ref d), .val (.int (Int32.ofNat (q + i))), .val (.int (Int32.ofNat len)), .val (.int (Int32.ofNat i)), z] [.int (Int32.ofNat (o + i)), .ref b])) := cl.trans (by
        refine XS.iload Xl.here hexec rfl (hb hbytes d3) rfl ?_
        refine XS.iload Xl.here hexec rfl (hb hbytes d5) rfl ?_
        refine XS.icmpNo Xl.here hexec rfl (hb hbytes d7) rfl (ii_ge_f (lt32 (by omega) (by omega))) ?_
        refine XS.aloadN Xl.here hexec rfl (hb hbytes d10) rfl rfl ?_
        refine XS.iloadN Xl.here hexec rfl (hb hbytes d11) rfl ?_
        exact Steps.refl _)
      have c4 : Steps p.tables e below (s₁.setTop (entryFrame m #[.ref b, .int (Int32.ofNat o), .ref d, .int (Int32.ofNat q), .int (Int32.ofNat len)] 7)) (Tl.setTop (mkF m 13 #[.val (.ref b), .val (.int (Int32.ofNat (o + i))), .val (.ref d), .val (.int (Int32.ofNat (q + i))), .val (.int (Int32.ofNat len)), .val (.int (Int32.ofNat i)), z] [.int (cv A (o + i))])) := c3.trans (by
        refine Xl.aget hexec hAl rfl (hA.get (i := o + i) (by omega)) rfl rfl (hb hbytes d12) ?_
        exact Steps.refl _)
      have c5 : Steps p.tables e below (s₁.setTop (entryFrame m #[.ref b, .int (Int32.ofNat o), .ref d, .int (Int32.ofNat q), .int (Int32.ofNat len)] 7)) (Tl.setTop (mkF m 15 #[.val (.ref b), .val (.int (Int32.ofNat (o + i))), .val (.ref d), .val (.int (Int32.ofNat (q + i))), .val (.int (Int32.ofNat len)), .val (.int (Int32.ofNat i)), .val (.int (cv A (o + i)))] [])) := c4.trans (by
        refine XS.istoreS Xl.here hexec rfl (hb hbytes d13) rfl rfl hz ?_
        exact Steps.refl _)
      have c6 : Steps p.tables e below (s₁.setTop (entryFrame m #[.ref b, .int (Int32.ofNat o), .ref d, .int (Int32.ofNat q), .int (Int32.ofNat len)] 7)) (Tl.setTop (mkF m 31 #[.val (.ref b), .val (.int (Int32.ofNat (o + i))), .val (.ref d), .val (.int (Int32.ofNat (q + i))), .val (.int (Int32.ofNat len)), .val (.int (Int32.ofNat i)), .val (.int (cv A (o + i)))] [.int (lo8 (cv A (o + i))), .int (Int32.ofNat (q + i)), .ref d])) := c5.trans (by
        refine XS.iload Xl.here hexec rfl (hb hbytes d15) rfl ?_
        refine sipushV Xl.here hexec rfl 255 (hb hbytes d17) (by decide) ?_
        refine XS.icmpYes Xl.here hexec rfl (pc0 := 20) rfl (hb hbytes d20) rfl (ii_le_t (hp i (by omega))) (by decide) rfl ?_
        refine XS.aloadN Xl.here hexec rfl (hb hbytes d26) rfl rfl ?_
        refine XS.iloadN Xl.here hexec rfl (hb hbytes d27) rfl ?_
        refine XS.iload Xl.here hexec rfl (hb hbytes d28) rfl ?_
        refine i2b Xl.here hexec rfl (hb hbytes d30) rfl ?_
        exact Steps.refl _)
      obtain ⟨T7, X7, p7, st7⟩ := Xl.aput hexec hBk rfl hlt rfl (fits_lo8 (cv A (o + i))) (g := (mkF m 31 #[.val (.ref b), .val (.int (Int32.ofNat (o + i))), .val (.ref d), .val (.int (Int32.ofNat (q + i))), .val (.int (Int32.ofNat len)), .val (.int (Int32.ofNat i)), .val (.int (cv A (o + i)))] [.int (lo8 (cv A (o + i))), .int (Int32.ofNat (q + i)), .ref d])) rfl (rest := []) rfl (hb hbytes d31)
      have c8 : Steps p.tables e below (s₁.setTop (entryFrame m #[.ref b, .int (Int32.ofNat o), .ref d, .int (Int32.ofNat q), .int (Int32.ofNat len)] 7)) (T7.setTop (mkF m 32 #[.val (.ref b), .val (.int (Int32.ofNat (o + i))), .val (.ref d), .val (.int (Int32.ofNat (q + i))), .val (.int (Int32.ofNat len)), .val (.int (Int32.ofNat i)), .val (.int (cv A (o + i)))] [])) := c6.trans (st7 _ (Steps.refl _))
      have c9 : Steps p.tables e below (s₁.setTop (entryFrame m #[.ref b, .int (Int32.ofNat o), .ref d, .int (Int32.ofNat q), .int (Int32.ofNat len)] 7)) (T7.setTop (mkF m 3 #[.val (.ref b), .val (.int (Int32.ofNat (o + i) + 1)), .val (.ref d), .val (.int (Int32.ofNat (q + i) + 1)), .val (.int (Int32.ofNat len)), .val (.int (Int32.ofNat i + 1)), .val (.int (cv A (o + i)))] [])) := c8.trans (by
        refine iincV X7.here hexec rfl 1 (hb hbytes d32) (by decide) rfl rfl ?_
        refine iincV X7.here hexec rfl 1 (hb hbytes d35) (by decide) rfl rfl ?_
        refine iincV X7.here hexec rfl 1 (hb hbytes d38) (by decide) rfl rfl ?_
        refine XS.goto X7.here hexec rfl (pc0 := 41) rfl (hb hbytes d41) (by decide) rfl ?_
        exact Steps.refl _)
      have c10 : Steps p.tables e below (s₁.setTop (entryFrame m #[.ref b, .int (Int32.ofNat o), .ref d, .int (Int32.ofNat q), .int (Int32.ofNat len)] 7)) (T7.setTop (mkF m 3 #[.val (.ref b), .val (.int (Int32.ofNat (o + (i + 1)))), .val (.ref d), .val (.int (Int32.ofNat (q + (i + 1)))), .val (.int (Int32.ofNat len)), .val (.int (Int32.ofNat (i + 1))), .val (.int (cv A (o + i)))] [])) := by
        have := c9
        rw [succ32, succ32, succ32] at this
        exact this
      exact ih (i + 1) (by omega) _ (Or.inr ⟨_, rfl, rfl⟩) T7 _ (by rw [copyLocs_step, ← List.append_assoc]; exact X7) (pl.trans p7) (fl.step (by omega) hlt (by simp)) c10
  obtain ⟨T9, B9, z9, X9, p9, f9, g9⟩ := loop len 0 (by omega) .unset (Or.inl rfl) s₁ B (by simpa [copyLocs] using X0) ⟨hB0.1, fun _ _ => rfl, rfl⟩ (Laid.zero _ _ _) c2
  have c11 : Steps p.tables e below (s₁.setTop (entryFrame m #[.ref b, .int (Int32.ofNat o), .ref d, .int (Int32.ofNat q), .int (Int32.ofNat len)] 7)) (T9.setTop (mkF m 46 #[.val (.ref b), .val (.int (Int32.ofNat (o + len))), .val (.ref d), .val (.int (Int32.ofNat (q + len))), .val (.int (Int32.ofNat len)), .val (.int (Int32.ofNat len)), z9] [.int (Int32.ofNat len)])) := g9.trans (by
    refine XS.iload X9.here hexec rfl (hb hbytes d3) rfl ?_
    refine XS.iload X9.here hexec rfl (hb hbytes d5) rfl ?_
    refine XS.icmpYes X9.here hexec rfl (pc0 := 7) rfl (hb hbytes d7) rfl (ii_ge_t (nlt32 (by omega) (Nat.le_refl _))) (by decide) rfl ?_
    refine XS.iload X9.here hexec rfl (hb hbytes d44) rfl ?_
    exact Steps.refl _)
  exact ⟨T9, some (.int (Int32.ofNat len)), _, _, _, X9, by simp, rfl, rfl, (fun h => by cases h), ⟨rfl, B9, p9.from hh0, f9⟩, fun fs hl => c11.trans (X9.ireturnOut hexec hret rfl (Or.inl rfl) (hb hbytes d46) hl)⟩
end Cmp5
namespace Cmp3
def yN : MethodName := ⟨"java/lang/StringUTF16", "compress", "([CII)[B"⟩
abbrev yB : ByteArray := jdk_52_method_16_code
theorem d0 : decode yB 0 = .ok (.iload_n 2, 1) := by decide +kernel
theorem d1 : decode yB 1 = .ok (.newarray .byte, 2) := by decide +kernel
theorem d3 : decode yB 3 = .ok (.astore_n 3, 1) := by decide +kernel
theorem d4 : decode yB 4 = .ok (.aload_n 0, 1) := by decide +kernel
theorem d5 : decode yB 5 = .ok (.iload_n 1, 1) := by decide +kernel
theorem d6 : decode yB 6 = .ok (.aload_n 3, 1) := by decide +kernel
theorem d7 : decode yB 7 = .ok (.iconst 0, 1) := by decide +kernel
theorem d8 : decode yB 8 = .ok (.iload_n 2, 1) := by decide +kernel
theorem d9 : decode yB 9 = .ok (.invokestatic 115, 3) := by decide +kernel
theorem d12 : decode yB 12 = .ok (.istore 4, 2) := by decide +kernel
theorem d14 : decode yB 14 = .ok (.iload 4, 2) := by decide +kernel
theorem d16 : decode yB 16 = .ok (.iload_n 2, 1) := by decide +kernel
theorem d17 : decode yB 17 = .ok (.if_icmp (.eq) 40, 3) := by decide +kernel
theorem d57 : decode yB 57 = .ok (.aload_n 3, 1) := by decide +kernel
theorem d58 : decode yB 58 = .ok (.areturn, 1) := by decide +kernel
def site : List Cond := [.arrayClass .byte, Cmp5.tab] ++ staticW U16 115 Cmp5.yN
def tab : Cond := tabOf yN yB 6 (some (.array .byte)) site
def P (b : Addr) (A : Cell) (o len : Nat) (args : Array Value) (s : State) : Prop := args = #[.ref b, .int (Int32.ofNat o), .int (Int32.ofNat len)] ∧ Ch b A s ∧ o + len ≤ A.slots.size ∧ len ≤ 536870912 ∧ ∀ i, i < len → ¬ 255 < cv A (o + i)
def E (b : Addr) (A : Cell) (o len : Nat) (r : Option Value) (s u : State) : Prop := NewArr .byte "[B" len (fun j => .int (lo8 (cv A (o + j)))) r s u ∧ u.heap.size = s.heap.size + 1
/-- no char of the range above 255: a new byte[] of their low bytes -/
theorem law (l : Launch) (b : Addr) (A : Cell) (o len : Nat) : Law l yN 3 3 1 18 yB 6 (some (.array .byte)) site (P b A o len) (E b A o len) [] 1 len := by
  refine Law.of_walk (plainFor_of_name (by decide +kernel)) (by decide +kernel) (by decide +kernel) (by decide) (fun _ _ h => by rw [h.1]; rfl) (fun _ U U' hal hh h => ⟨h.1, h.2.1.mv hal hh, h.2.2⟩) (fun r U U' V V' h1 hal h2 h => ⟨NewArr.mv r U U' V V' h1 hal h2 h.1, by rw [h1, h2]; exact h.2⟩) ?_
  intro p e s m args below meth c s₁ X0 hexec hbytes hml hret hlk hnm hown hh0 W hP
  obtain ⟨rfl, hA, l1, l2, hp⟩ := hP
  have a31 := hA.1.2.2.2
  have c1 : Steps p.tables e below (s₁.setTop (entryFrame m #[.ref b, .int (Int32.ofNat o), .int (Int32.ofNat len)] 6)) (s₁.setTop (mkF m 0 #[.val (.ref b), .val (.int (Int32.ofNat o)), .val (.int (Int32.ofNat len)), .unset, .unset, .unset] [])) := entry rfl
  have c2 : Steps p.tables e below (s₁.setTop (entryFrame m #[.ref b, .int (Int32.ofNat o), .int (Int32.ofNat len)] 6)) (s₁.setTop (mkF m 1 #[.val (.ref b), .val (.int (Int32.ofNat o)), .val (.int (Int32.ofNat len)), .unset, .unset, .unset] [.int (Int32.ofNat len)])) := c1.trans (by
    refine XS.iloadN X0.here hexec rfl (hb hbytes d0) rfl ?_
    exact Steps.refl _)
  obtain ⟨T3, B3, X3, ba3, bs3, bv3, bh3, bf3, st3⟩ := X0.anew hexec (atype := .byte) (wk W (.arrayClass .byte)) rfl (by show len * 1 ≤ _; omega) (by omega) (g := (mkF m 1 #[.val (.ref b), .val (.int (Int32.ofNat o)), .val (.int (Int32.ofNat len)), .unset, .unset, .unset] [.int (Int32.ofNat len)])) rfl (hb hbytes d1) (rest := []) rfl (Nat.le_refl _) (by show 0 + len ≤ len; omega)
  rw [hh0] at ba3 st3
  have kp3 : XT.Kept s T3 := (XT.Kept.of_eq hh0).push bh3
  have hA3 := hA.keep X3.warmed.alike (kp3 _ _ hA.1.1)
  have hne : b ≠ s.heap.size := hA.1.ne
  have c4 : Steps p.tables e below (s₁.setTop (entryFrame m #[.ref b, .int (Int32.ofNat o), .int (Int32.ofNat len)] 6)) (T3.setTop (mkF m 3 #[.val (.ref b), .val (.int (Int32.ofNat o)), .val (.int (Int32.ofNat len)), .unset, .unset, .unset] [.ref s.heap.size])) := c2.trans (st3 _ (Steps.refl _))
  have c5 : Steps p.tables e below (s₁.setTop (entryFrame m #[.ref b, .int (Int32.ofNat o), .int (Int32.ofNat len)] 6)) (T3.setTop (mkF m 9 #[.val (.ref b), .val (.int (Int32.ofNat o)), .val (.int (Int32.ofNat len)), .val (.ref s.heap.size), .unset, .unset] [.int (Int32.ofNat len), .int 0, .ref s.heap.size, .int (Int32.ofNat o), .ref b])) := c4.trans (by
    refine XS.astoreN X3.here hexec rfl (hb hbytes d3) rfl rfl rfl ?_
    refine XS.aloadN X3.here hexec rfl (hb hbytes d4) rfl rfl ?_
    refine XS.iloadN X3.here hexec rfl (hb hbytes d5) rfl ?_
    refine XS.aloadN X3.here hexec rfl (hb hbytes d6) rfl rfl ?_
    refine iconstV X3.here hexec rfl 0 (hb hbytes d7) (by decide) ?_
    refine XS.iloadN X3.here hexec rfl (hb hbytes d8) rfl ?_
    exact Steps.refl _)
  obtain ⟨v6, T6, X6, E6, g6⟩ := X3.callS hexec (Cmp5.law l b A s.heap.size B3 o 0 len) hown (wks W (staticW U16 115 Cmp5.yN)) (wk W Cmp5.tab) (W := 0) (Nat.le_of_ble_eq_true rfl) (Nat.le_of_ble_eq_true rfl) (Nat.le_refl _) (by show 0 + len + 0 ≤ len; omega) (g := (mkF m 9 #[.val (.ref b), .val (.int (Int32.ofNat o)), .val (.int (Int32.ofNat len)), .val (.ref s.heap.size), .unset, .unset] [.int (Int32.ofNat len), .int (Int32.ofNat 0), .ref s.heap.size, .int (Int32.ofNat o), .ref b])) rfl (by rw [hml]; rfl) c5 (argsL := [.ref b, .int (Int32.ofNat o), .ref s.heap.size, .int (Int32.ofNat 0), .int (Int32.ofNat len)]) (rest := []) rfl rfl (by show 2 * 0 + 0 ≤ _; decide) (hb hbytes d9) (⟨rfl, hA3, ba3, hne, l1, by rw [bs3]; simp, hp⟩)
  obtain ⟨rfl, B6, p6, f6⟩ := E6
  have c7 : Steps p.tables e below (s₁.setTop (entryFrame m #[.ref b, .int (Int32.ofNat o), .int (Int32.ofNat len)] 6)) (T6.setTop (mkF m 12 #[.val (.ref b), .val (.int (Int32.ofNat o)), .val (.int (Int32.ofNat len)), .val (.ref s.heap.size), .unset, .unset] [.int (Int32.ofNat len)])) := g6
  have c8 : Steps p.tables e below (s₁.setTop (entryFrame m #[.ref b, .int (Int32.ofNat o), .int (Int32.ofNat len)] 6)) (T6.setTop (mkF m 58 #[.val (.ref b), .val (.int (Int32.ofNat o)), .val (.int (Int32.ofNat len)), .val (.ref s.heap.size), .val (.int (Int32.ofNat len)), .unset] [.ref s.heap.size])) := c7.trans (by
    refine XS.istore X6.here hexec rfl (hb hbytes d12) rfl rfl ?_
    refine XS.iload X6.here hexec rfl (hb hbytes d14) rfl ?_
    refine XS.iloadN X6.here hexec rfl (hb hbytes d16) rfl ?_
    refine XS.icmpYes X6.here hexec rfl (pc0 := 17) rfl (hb hbytes d17) rfl (ii_eq_t rfl) (by decide) rfl ?_
    refine XS.aloadN X6.here hexec rfl (hb hbytes d57) rfl rfl ?_
    exact Steps.refl _)
  have X8 := X6.wide (L' := []) (cells' := 1) (slots' := len) (fun x hx hlt => by
    simp only [List.nil_append, copyLocs, List.mem_map, List.mem_range] at hx
    obtain ⟨i, -, rfl⟩ := hx
    exact absurd hlt (Nat.lt_irrefl _)) (Nat.le_refl _) (by omega)
  exact ⟨T6, some (.ref s.heap.size), _, _, _, X8, rfl, rfl, rfl, (fun h => by cases h), ⟨⟨rfl, B6, ba3.like (X3.warmed.alike.symm.trans X6.warmed.alike) p6.1 f6.1 f6.2.1 f6.2.2.1, f6.2.1.trans bv3, by rw [X6.warmed.alike.findClass, f6.1]; exact bf3, by rw [f6.2.2.1, bs3]; simp, fun j hj => by rw [f6.2.2.2 j, if_pos (by omega)]; rfl, kp3.put p6 (Nat.le_refl _)⟩, by rw [p6.2.2, bh3, hh0]; simp⟩, fun fs hl => c8.trans (X8.areturnOut hexec rfl hret rfl (hb hbytes d58) hl)⟩
end Cmp3
namespace CodL
def yN : MethodName := ⟨"java/lang/StringUTF16", "coderFromArrayLen", "([BI)B"⟩
abbrev yB : ByteArray := jdk_52_method_15_code
theorem d0 : decode yB 0 = .ok (.iload_n 1, 1) := by decide +kernel
theorem d1 : decode yB 1 = .ok (.aload_n 0, 1) := by decide +kernel
theorem d2 : decode yB 2 = .ok (.arraylength, 1) := by decide +kernel
theorem d3 : decode yB 3 = .ok (.isub, 1) := by decide +kernel
theorem d4 : decode yB 4 = .ok (.bipush 31, 2) := by decide +kernel
theorem d6 : decode yB 6 = .ok (.iushr, 1) := by decide +kernel
theorem d7 : decode yB 7 = .ok (.i2b, 1) := by decide +kernel
theorem d8 : decode yB 8 = .ok (.ireturn, 1) := by decide +kernel
def site : List Cond := []
def tab : Cond := tabOf yN yB 2 (some .byte) site
def P (d : Addr) (B : Cell) (args : Array Value) (s : State) : Prop := args = #[.ref d, .int (Int32.ofNat B.slots.size)] ∧ Arr .byte d B s
def E (r : Option Value) (s u : State) : Prop := XT.PureE (some (.int 0)) r s u
/-- an array as long as the number of chars: LATIN1 -/
theorem law (l : Launch) (d : Addr) (B : Cell) : Law l yN 2 2 0 0 yB 2 (some .byte) site (P d B) E [] 0 0 := by
  refine Law.of_walk (plainFor_of_name (by decide +kernel)) (by decide +kernel) (by decide +kernel) (by decide) (fun _ _ h => by rw [h.1]; rfl) (fun _ U U' hal hh h => ⟨h.1, h.2.mv hal hh⟩) (fun r U U' V V' h1 hal h2 h => XT.PureE.mv r U U' V V' h1 hal h2 h) ?_
  intro p e s m args below meth c s₁ X0 hexec hbytes hml hret hlk hnm hown hh0 W hP
  obtain ⟨rfl, hB⟩ := hP
  have hB0 := hB.mv X0.warmed.alike hh0
  have c1 : Steps p.tables e below (s₁.setTop (entryFrame m #[.ref d, .int (Int32.ofNat B.slots.size)] 2)) (s₁.setTop (mkF m 0 #[.val (.ref d), .val (.int (Int32.ofNat B.slots.size))] [])) := entry rfl
  have c2 : Steps p.tables e below (s₁.setTop (entryFrame m #[.ref d, .int (Int32.ofNat B.slots.size)] 2)) (s₁.setTop (mkF m 2 #[.val (.ref d), .val (.int (Int32.ofNat B.slots.size))] [.ref d, .int (Int32.ofNat B.slots.size)])) := c1.trans (by
    refine XS.iloadN X0.here hexec rfl (hb hbytes d0) rfl ?_
    refine XS.aloadN X0.here hexec rfl (hb hbytes d1) rfl rfl ?_
    exact Steps.refl _)
  have c3 : Steps p.tables e below (s₁.setTop (entryFrame m #[.ref d, .int (Int32.ofNat B.slots.size)] 2)) (s₁.setTop (mkF m 8 #[.val (.ref d), .val (.int (Int32.ofNat B.slots.size))] [.int (lo8 (ushr (Int32.ofNat B.slots.size - Int32.ofNat B.slots.size) 31))])) := c2.trans (by
    refine X0.alen hexec hB0 rfl rfl (hb hbytes d2) ?_
    refine XS.isub X0.here hexec rfl (hb hbytes d3) rfl ?_
    refine bipushV X0.here hexec rfl 31 (hb hbytes d4) (by decide) ?_
    refine iushr X0.here hexec rfl (hb hbytes d6) rfl ?_
    refine i2b X0.here hexec rfl (hb hbytes d7) rfl ?_
    exact Steps.refl _)
  have e0 : lo8 (ushr (Int32.ofNat B.slots.size - Int32.ofNat B.slots.size) 31) = 0 := by rw [Int32.sub_self]; decide
  rw [e0] at c3
  exact ⟨s₁, some (.int 0), _, _, _, X0, rfl, rfl, rfl, (fun h => by cases h), ⟨rfl, hh0⟩, fun fs hl => c3.trans (X0.ireturnOut hexec hret rfl (Or.inr (Or.inr (Or.inl rfl))) (hb hbytes d8) hl)⟩
end CodL
/-- the String at a is Latin-1 over a new byte[] (the heap's one new cell): the low bytes of the len chars of A from o on; every cell but a is kept -/
def Got (a : Addr) (D : Cell) (fV fC : Field) (A : Cell) (o len : Nat) (r : Option Value) (s u : State) : Prop := r = none ∧ ∃ D' V : Cell, Blank "java/lang/String" a D' u ∧ Same D D' [fV.slot, fC.slot] ∧ D'.slots[fV.slot]? = some (.ref s.heap.size) ∧ D'.slots[fC.slot]? = some (.int 0) ∧ Arr .byte s.heap.size V u ∧ V.vm = .none ∧ u.vm.findClass "[B" = some V.cls ∧ V.slots.size = len ∧ (∀ j, j < len → V.slots[j]? = some (.int (lo8 (cv A (o + j))))) ∧ (∀ (y : Addr) (c : Cell), y ≠ a → s.heap[y]? = some c → u.heap[y]? = some c) ∧ u.heap.size = s.heap.size + 1
theorem Got.mv {a : Addr} {D A : Cell} {fV fC : Field} {o len : Nat} : ∀ r (U U' V V' : State), U'.heap = U.heap → V.vm.Alike V'.vm → V'.heap = V.heap → Got a D fV fC A o len r U V → Got a D fV fC A o len r U' V' :=
  fun r U U' V V' h1 hal h2 ⟨e0, D', X, a1, a2, a3, a4, a5, a6, a7, a8, a9, a10, a11⟩ => ⟨e0, D', X, a1.mv hal h2, a2, by rw [h1]; exact a3, a4, by rw [h1]; exact a5.mv hal h2, a6, by rw [hal.findClass]; exact a7, a8, a9, by rw [h1, h2]; exact a10, by rw [h1, h2]; exact a11⟩
namespace New4
def yN : MethodName := ⟨"java/lang/String", "<init>", "([CIILjava/lang/Void;)V"⟩
abbrev yB : ByteArray := jdk_42_method_149_code
theorem d0 : decode yB 0 = .ok (.aload_n 0, 1) := by decide +kernel
theorem d1 : decode yB 1 = .ok (.invokespecial 1, 3) := by decide +kernel
theorem d4 : decode yB 4 = .ok (.iload_n 3, 1) := by decide +kernel
theorem d5 : decode yB 5 = .ok (.ifCond (.ne) 22, 3) := by decide +kernel
theorem d27 : decode yB 27 = .ok (.getstatic 38, 3) := by decide +kernel
theorem d30 : decode yB 30 = .ok (.ifCond (.eq) 28, 3) := by decide +kernel
theorem d33 : decode yB 33 = .ok (.aload_n 1, 1) := by decide +kernel
theorem d34 : decode yB 34 = .ok (.iload_n 2, 1) := by decide +kernel
theorem d35 : decode yB 35 = .ok (.iload_n 3, 1) := by decide +kernel
theorem d36 : decode yB 36 = .ok (.invokestatic 177, 3) := by decide +kernel
theorem d39 : decode yB 39 = .ok (.astore 5, 2) := by decide +kernel
theorem d41 : decode yB 41 = .ok (.aload_n 0, 1) := by decide +kernel
theorem d42 : decode yB 42 = .ok (.aload 5, 2) := by decide +kernel
theorem d44 : decode yB 44 = .ok (.iload_n 3, 1) := by decide +kernel
theorem d45 : decode yB 45 = .ok (.invokestatic 47, 3) := by decide +kernel
theorem d48 : decode yB 48 = .ok (.putfield 15, 3) := by decide +kernel
theorem d51 : decode yB 51 = .ok (.aload_n 0, 1) := by decide +kernel
theorem d52 : decode yB 52 = .ok (.aload 5, 2) := by decide +kernel
theorem d54 : decode yB 54 = .ok (.putfield 9, 3) := by decide +kernel
theorem d57 : decode yB 57 = .ok (.return_, 1) := by decide +kernel
def site : List Cond := [.fieldLink "java/lang/String" 38 "java/lang/String" "COMPACT_STRINGS" "Z", Cmp3.tab, CodL.tab, .laysFinal "java/lang/String" "java/lang/String" "value" "[B", .fieldLink "java/lang/String" 9 "java/lang/String" "value" "[B", .laysFinal "java/lang/String" "java/lang/String" "coder" "B", .fieldLink "java/lang/String" 15 "java/lang/String" "coder" "B"] ++ objW "java/lang/String" 1 ++ staticW "java/lang/String" 177 Cmp3.yN ++ staticW "java/lang/String" 47 CodL.yN
def tab : Cond := tabOf yN yB 6 none site
def P (a : Addr) (D : Cell) (fV fC : Field) (b : Addr) (A : Cell) (z : Int32) (o len : Nat) (args : Array Value) (s : State) : Prop := args = #[.ref a, .ref b, .int (Int32.ofNat o), .int (Int32.ofNat len), .null] ∧ Blank "java/lang/String" a D s ∧ Found "java/lang/String" "value" "[B" fV s ∧ Found "java/lang/String" "coder" "B" fC s ∧ Ch b A s ∧ StaticIs s "java/lang/String" "COMPACT_STRINGS" "Z" (.int z) ∧ ¬ z = 0 ∧ 0 < len ∧ o + len ≤ A.slots.size ∧ len ≤ 536870912 ∧ ∀ i, i < len → ¬ 255 < cv A (o + i)
def E (a : Addr) (D : Cell) (fV fC : Field) (A : Cell) (o len : Nat) (r : Option Value) (s u : State) : Prop := Got a D fV fC A o len r s u
/-- len > 0, no char of the range above 255: a Latin-1 String of their low bytes -/
theorem law (l : Launch) (a : Addr) (D : Cell) (fV fC : Field) (b : Addr) (A : Cell) (z : Int32) (o len : Nat) : Law l yN 5 4 2 35 yB 6 none site (P a D fV fC b A z o len) (E a D fV fC A o len) [⟨a, fC.slot⟩, ⟨a, fV.slot⟩] 1 len := by
  refine Law.of_walk (plainFor_of_name (by decide +kernel)) (by decide +kernel) (by decide +kernel) (by decide) (fun _ _ h => by rw [h.1]; rfl) (fun _ U U' hal hh h => ⟨h.1, h.2.1.mv hal hh, h.2.2.1.al hal, h.2.2.2.1.al hal, h.2.2.2.2.1.mv hal hh, h.2.2.2.2.2.1.there hal hh, h.2.2.2.2.2.2⟩) (fun r U U' V V' h1 hal h2 h => Got.mv r U U' V V' h1 hal h2 h) ?_
  intro p e s m args below meth c s₁ X0 hexec hbytes hml hret hlk hnm hown hh0 W hP
  obtain ⟨rfl, hB, f1, f2, hA, s1, hz, l0, l1, l2, hp⟩ := hP
  have a31 := hA.1.2.2.2
  have c1 : Steps p.tables e below (s₁.setTop (entryFrame m #[.ref a, .ref b, .int (Int32.ofNat o), .int (Int32.ofNat len), .null] 6)) (s₁.setTop (mkF m 0 #[.val (.ref a), .val (.ref b), .val (.int (Int32.ofNat o)), .val (.int (Int32.ofNat len)), .val .null, .unset] [])) := entry rfl
  have c2 : Steps p.tables e below (s₁.setTop (entryFrame m #[.ref a, .ref b, .int (Int32.ofNat o), .int (Int32.ofNat len), .null] 6)) (s₁.setTop (mkF m 1 #[.val (.ref a), .val (.ref b), .val (.int (Int32.ofNat o)), .val (.int (Int32.ofNat len)), .val .null, .unset] [.ref a])) := c1.trans (by
    refine XS.aloadN X0.here hexec rfl (hb hbytes d0) rfl rfl ?_
    exact Steps.refl _)
  obtain ⟨T3, X3, q3, st3⟩ := X0.oinit hexec hown (wks W (objW "java/lang/String" 1)) (g := (mkF m 1 #[.val (.ref a), .val (.ref b), .val (.int (Int32.ofNat o)), .val (.int (Int32.ofNat len)), .val .null, .unset] [.ref a])) rfl (by rw [hml]; rfl) (rest := []) rfl (hb hbytes d1) (W := 0) (by show 2 * 0 + 0 ≤ _; decide) (Nat.le_of_ble_eq_true rfl) (Nat.le_of_ble_eq_true rfl)
  have hh3 := q3.trans hh0
  have c4 : Steps p.tables e below (s₁.setTop (entryFrame m #[.ref a, .ref b, .int (Int32.ofNat o), .int (Int32.ofNat len), .null] 6)) (T3.setTop (mkF m 27 #[.val (.ref a), .val (.ref b), .val (.int (Int32.ofNat o)), .val (.int (Int32.ofNat len)), .val .null, .unset] [])) := (c2.trans (st3 _ (Steps.refl _))).trans (by
    refine XS.iloadN X3.here hexec rfl (hb hbytes d4) rfl ?_
    refine XS.ifYes X3.here hexec rfl (pc0 := 5) rfl (hb hbytes d5) rfl (i0_ne_t (nz32 (by omega) l0)) (by decide) rfl ?_
    exact Steps.refl _)
  obtain ⟨T5, X5, q5, st5⟩ := X3.sget hexec hown (wk W (.fieldLink "java/lang/String" 38 "java/lang/String" "COMPACT_STRINGS" "Z")) s1 (fun _ _ h => by rw [hh3]; exact h) (g := (mkF m 27 #[.val (.ref a), .val (.ref b), .val (.int (Int32.ofNat o)), .val (.int (Int32.ofNat len)), .val .null, .unset] [])) rfl (hb hbytes d27)
  have hh5 := q5.trans hh3
  have c6 : Steps p.tables e below (s₁.setTop (entryFrame m #[.ref a, .ref b, .int (Int32.ofNat o), .int (Int32.ofNat len), .null] 6)) (T5.setTop (mkF m 30 #[.val (.ref a), .val (.ref b), .val (.int (Int32.ofNat o)), .val (.int (Int32.ofNat len)), .val .null, .unset] [.int z])) := c4.trans (st5 _ (Steps.refl _))
  have c7 : Steps p.tables e below (s₁.setTop (entryFrame m #[.ref a, .ref b, .int (Int32.ofNat o), .int (Int32.ofNat len), .null] 6)) (T5.setTop (mkF m 36 #[.val (.ref a), .val (.ref b), .val (.int (Int32.ofNat o)), .val (.int (Int32.ofNat len)), .val .null, .unset] [.int (Int32.ofNat len), .int (Int32.ofNat o), .ref b])) := c6.trans (by
    refine XS.ifNo X5.here hexec rfl (hb hbytes d30) rfl (i0_eq_f hz) ?_
    refine XS.aloadN X5.here hexec rfl (hb hbytes d33) rfl rfl ?_
    refine XS.iloadN X5.here hexec rfl (hb hbytes d34) rfl ?_
    refine XS.iloadN X5.here hexec rfl (hb hbytes d35) rfl ?_
    exact Steps.refl _)
  obtain ⟨v8, T8, X8, E8, g8⟩ := X5.callS hexec (Cmp3.law l b A o len) hown (wks W (staticW "java/lang/String" 177 Cmp3.yN)) (wk W Cmp3.tab) (W := 0) (Nat.le_of_ble_eq_true rfl) (Nat.le_of_ble_eq_true rfl) (Nat.le_refl _) (by show 0 + len ≤ len; omega) (g := (mkF m 36 #[.val (.ref a), .val (.ref b), .val (.int (Int32.ofNat o)), .val (.int (Int32.ofNat len)), .val .null, .unset] [.int (Int32.ofNat len), .int (Int32.ofNat o), .ref b])) rfl (by rw [hml]; rfl) c7 (argsL := [.ref b, .int (Int32.ofNat o), .int (Int32.ofNat len)]) (rest := []) rfl rfl (by show 2 * 0 + 0 ≤ _; decide) (hb hbytes d36) (⟨rfl, hA.mv X5.warmed.alike hh5, l1, l2, hp⟩)
  obtain ⟨e8, z8⟩ := E8
  obtain ⟨rfl, N, n1, n2, n3, n4, n5, n6⟩ := NewArr.mv _ T5 s _ _ hh5.symm (Vm.Alike.refl _) rfl e8
  rw [hh5] at z8
  have hB1 := hB.keep X8.warmed.alike (n6 _ _ hB.1)
  have hne : s.heap.size ≠ a := (Nat.ne_of_lt (Array.getElem?_eq_some_iff.mp hB.1).1).symm
  have c9 : Steps p.tables e below (s₁.setTop (entryFrame m #[.ref a, .ref b, .int (Int32.ofNat o), .int (Int32.ofNat len), .null] 6)) (T8.setTop (mkF m 39 #[.val (.ref a), .val (.ref b), .val (.int (Int32.ofNat o)), .val (.int (Int32.ofNat len)), .val .null, .unset] [.ref s.heap.size])) := g8
  have c10 : Steps p.tables e below (s₁.setTop (entryFrame m #[.ref a, .ref b, .int (Int32.ofNat o), .int (Int32.ofNat len), .null] 6)) (T8.setTop (mkF m 45 #[.val (.ref a), .val (.ref b), .val (.int (Int32.ofNat o)), .val (.int (Int32.ofNat len)), .val .null, .val (.ref s.heap.size)] [.int (Int32.ofNat N.slots.size), .ref s.heap.size, .ref a])) := by
    have hc : Steps p.tables e below (s₁.setTop (entryFrame m #[.ref a, .ref b, .int (Int32.ofNat o), .int (Int32.ofNat len), .null] 6)) (T8.setTop (mkF m 45 #[.val (.ref a), .val (.ref b), .val (.int (Int32.ofNat o)), .val (.int (Int32.ofNat len)), .val .null, .val (.ref s.heap.size)] [.int (Int32.ofNat len), .ref s.heap.size, .ref a])) := c9.trans (by
      refine XS.astore X8.here hexec rfl (hb hbytes d39) rfl rfl rfl ?_
      refine XS.aloadN X8.here hexec rfl (hb hbytes d41) rfl rfl ?_
      refine XS.aload X8.here hexec rfl (hb hbytes d42) rfl rfl ?_
      refine XS.iloadN X8.here hexec rfl (hb hbytes d44) rfl ?_
      exact Steps.refl _)
    rw [n4]; exact hc
  obtain ⟨v11, T11, X11, E11, g11⟩ := X8.callS hexec (CodL.law l s.heap.size N) hown (wks W (staticW "java/lang/String" 47 CodL.yN)) (wk W CodL.tab) (W := 1) (Nat.le_of_ble_eq_true rfl) (Nat.le_of_ble_eq_true rfl) (Nat.le_refl _) (by show 0 + len + 0 ≤ len; omega) (g := (mkF m 45 #[.val (.ref a), .val (.ref b), .val (.int (Int32.ofNat o)), .val (.int (Int32.ofNat len)), .val .null, .val (.ref s.heap.size)] [.int (Int32.ofNat N.slots.size), .ref s.heap.size, .ref a])) rfl (by rw [hml]; rfl) c10 (argsL := [.ref s.heap.size, .int (Int32.ofNat N.slots.size)]) (rest := [.ref a]) rfl rfl (by show 2 * 0 + (1 + 0) ≤ _; decide) (hb hbytes d45) (⟨rfl, n1⟩)
  obtain ⟨rfl, q11⟩ := E11
  have hB11 := hB1.mv (X8.warmed.alike.symm.trans X11.warmed.alike) q11
  have c12 : Steps p.tables e below (s₁.setTop (entryFrame m #[.ref a, .ref b, .int (Int32.ofNat o), .int (Int32.ofNat len), .null] 6)) (T11.setTop (mkF m 48 #[.val (.ref a), .val (.ref b), .val (.int (Int32.ofNat o)), .val (.int (Int32.ofNat len)), .val .null, .val (.ref s.heap.size)] [.int 0, .ref a])) := g11
  obtain ⟨T13, X13, p13, bl13, sl13, st13⟩ := X11.finit hexec hown (wk W (.fieldLink "java/lang/String" 15 "java/lang/String" "coder" "B")) (Or.inr ⟨_, (wk W (.laysFinal "java/lang/String" "java/lang/String" "coder" "B"))⟩) (Or.inl ⟨rfl, hnm⟩) f2 (Or.inl rfl) hB11 (t := .byte) (by decide +kernel) rfl (g := (mkF m 48 #[.val (.ref a), .val (.ref b), .val (.int (Int32.ofNat o)), .val (.int (Int32.ofNat len)), .val .null, .val (.ref s.heap.size)] [.int 0, .ref a])) rfl (rest := []) rfl (hb hbytes d48)
  have c14 : Steps p.tables e below (s₁.setTop (entryFrame m #[.ref a, .ref b, .int (Int32.ofNat o), .int (Int32.ofNat len), .null] 6)) (T13.setTop (mkF m 54 #[.val (.ref a), .val (.ref b), .val (.int (Int32.ofNat o)), .val (.int (Int32.ofNat len)), .val .null, .val (.ref s.heap.size)] [.ref s.heap.size, .ref a])) := (c12.trans (st13 _ (Steps.refl _))).trans (by
    refine XS.aloadN X13.here hexec rfl (hb hbytes d51) rfl rfl ?_
    refine XS.aload X13.here hexec rfl (hb hbytes d52) rfl rfl ?_
    exact Steps.refl _)
  obtain ⟨T15, X15, p15, bl15, sl15, st15⟩ := X13.finit hexec hown (wk W (.fieldLink "java/lang/String" 9 "java/lang/String" "value" "[B")) (Or.inr ⟨_, (wk W (.laysFinal "java/lang/String" "java/lang/String" "value" "[B"))⟩) (Or.inl ⟨rfl, hnm⟩) f1 (Or.inl rfl) bl13 (t := (.array .byte)) (by decide +kernel) rfl (g := (mkF m 54 #[.val (.ref a), .val (.ref b), .val (.int (Int32.ofNat o)), .val (.int (Int32.ofNat len)), .val .null, .val (.ref s.heap.size)] [.ref s.heap.size, .ref a])) rfl (rest := []) rfl (hb hbytes d54)
  have c16 : Steps p.tables e below (s₁.setTop (entryFrame m #[.ref a, .ref b, .int (Int32.ofNat o), .int (Int32.ofNat len), .null] 6)) (T15.setTop (mkF m 57 #[.val (.ref a), .val (.ref b), .val (.int (Int32.ofNat o)), .val (.int (Int32.ofNat len)), .val .null, .val (.ref s.heap.size)] [])) := c14.trans (st15 _ (Steps.refl _))
  have ap := apart (Or.inr ⟨_, (wk W (.laysFinal "java/lang/String" "java/lang/String" "value" "[B"))⟩) (Or.inr ⟨_, (wk W (.laysFinal "java/lang/String" "java/lang/String" "coder" "B"))⟩) f1 f2 (t₁ := .array .byte) (t₂ := .byte) (by decide +kernel) (by decide +kernel) (by decide)
  have al := X8.warmed.alike.symm.trans X15.warmed.alike
  have n7 : T11.heap[s.heap.size]? = some N := by rw [q11]; exact n1.1
  exact ⟨T15, none, _, _, _, X15, by simp, rfl, by omega, (fun _ => rfl), ⟨rfl, _, N, bl15, ((Same.refl D _).set _ (by simp)).set _ (by simp), sl15, (Cell.slots_setSlot_ne _ ap).trans sl13, n1.keep al (p15.other hne (p13.other hne n7)), n2, by rw [al.findClass]; exact n3, n4, n5, fun y c h1 h2 => p15.other h1 (p13.other h1 (by rw [q11]; exact n6 y c h2)), by rw [p15.2.2, p13.2.2, q11]; exact z8⟩, fun fs hl => c16.trans (X15.returnOut hexec hret (hb hbytes d57) hl)⟩
end New4
namespace New1
def yN : MethodName := ⟨"java/lang/String", "<init>", "([C)V"⟩
abbrev yB : ByteArray := jdk_42_method_3_code
theorem d0 : decode yB 0 = .ok (.aload_n 0, 1) := by decide +kernel
theorem d1 : decode yB 1 = .ok (.aload_n 1, 1) := by decide +kernel
theorem d2 : decode yB 2 = .ok (.iconst 0, 1) := by decide +kernel
theorem d3 : decode yB 3 = .ok (.aload_n 1, 1) := by decide +kernel
theorem d4 : decode yB 4 = .ok (.arraylength, 1) := by decide +kernel
theorem d5 : decode yB 5 = .ok (.aconst_null, 1) := by decide +kernel
theorem d6 : decode yB 6 = .ok (.invokespecial 27, 3) := by decide +kernel
theorem d9 : decode yB 9 = .ok (.return_, 1) := by decide +kernel
def site : List Cond := [New4.tab] ++ initW "java/lang/String" 27 New4.yN
def tab : Cond := tabOf yN yB 2 none site
def P (a : Addr) (D : Cell) (fV fC : Field) (b : Addr) (A : Cell) (z : Int32) (args : Array Value) (s : State) : Prop := args = #[.ref a, .ref b] ∧ Blank "java/lang/String" a D s ∧ Found "java/lang/String" "value" "[B" fV s ∧ Found "java/lang/String" "coder" "B" fC s ∧ Ch b A s ∧ StaticIs s "java/lang/String" "COMPACT_STRINGS" "Z" (.int z) ∧ ¬ z = 0 ∧ 0 < A.slots.size ∧ A.slots.size ≤ 536870912 ∧ ∀ i, i < A.slots.size → ¬ 255 < cv A i
def E (a : Addr) (D : Cell) (fV fC : Field) (A : Cell) (r : Option Value) (s u : State) : Prop := Got a D fV fC A 0 A.slots.size r s u
/-- new String(chars), not empty, no char above 255: a Latin-1 String of their low bytes -/
theorem law (l : Launch) (a : Addr) (D : Cell) (fV fC : Field) (b : Addr) (A : Cell) (z : Int32) : Law l yN 2 1 3 52 yB 2 none site (P a D fV fC b A z) (E a D fV fC A) [⟨a, fC.slot⟩, ⟨a, fV.slot⟩] 1 A.slots.size := by
  refine Law.of_walk (plainFor_of_name (by decide +kernel)) (by decide +kernel) (by decide +kernel) (by decide) (fun _ _ h => by rw [h.1]; rfl) (fun _ U U' hal hh h => ⟨h.1, h.2.1.mv hal hh, h.2.2.1.al hal, h.2.2.2.1.al hal, h.2.2.2.2.1.mv hal hh, h.2.2.2.2.2.1.there hal hh, h.2.2.2.2.2.2⟩) (fun r U U' V V' h1 hal h2 h => Got.mv r U U' V V' h1 hal h2 h) ?_
  intro p e s m args below meth c s₁ X0 hexec hbytes hml hret hlk hnm hown hh0 W hP
  obtain ⟨rfl, hB, f1, f2, hA, s1, hz, l0, l2, hp⟩ := hP
  have c1 : Steps p.tables e below (s₁.setTop (entryFrame m #[.ref a, .ref b] 2)) (s₁.setTop (mkF m 0 #[.val (.ref a), .val (.ref b)] [])) := entry rfl
  have c2 : Steps p.tables e below (s₁.setTop (entryFrame m #[.ref a, .ref b] 2)) (s₁.setTop (mkF m 6 #[.val (.ref a), .val (.ref b)] [.null, .int (Int32.ofNat A.slots.size), .int 0, .ref b, .ref a])) := c1.trans (by
    refine XS.aloadN X0.here hexec rfl (hb hbytes d0) rfl rfl ?_
    refine XS.aloadN X0.here hexec rfl (hb hbytes d1) rfl rfl ?_
    refine iconstV X0.here hexec rfl 0 (hb hbytes d2) (by decide) ?_
    refine XS.aloadN X0.here hexec rfl (hb hbytes d3) rfl rfl ?_
    refine X0.alen hexec (hA.1.mv X0.warmed.alike hh0) rfl rfl (hb hbytes d4) ?_
    refine XS.aconstNull X0.here hexec rfl (hb hbytes d5) ?_
    exact Steps.refl _)
  obtain ⟨v3, T3, X3, E3, g3⟩ := X0.callN hexec (New4.law l a D fV fC b A z 0 A.slots.size) rfl hown (wks W (initW "java/lang/String" 27 New4.yN)) (W New4.tab (by simp only [site, List.mem_cons, List.mem_append, true_or, or_true])) (W := 0) (Nat.le_of_ble_eq_true rfl) (Nat.le_of_ble_eq_true rfl) (Nat.le_refl _) (by show 0 + A.slots.size ≤ A.slots.size; omega) (g := (mkF m 6 #[.val (.ref a), .val (.ref b)] [.null, .int (Int32.ofNat A.slots.size), .int (Int32.ofNat 0), .ref b, .ref a])) rfl (by rw [hml]; rfl) c2 (argsL := [.ref b, .int (Int32.ofNat 0), .int (Int32.ofNat A.slots.size), .null]) (rest := []) rfl rfl (by show 2 * 0 + 0 ≤ _; decide) (hb hbytes d6) (⟨rfl, hB.mv X0.warmed.alike hh0, f1.al X0.warmed.alike, f2.al X0.warmed.alike, hA.mv X0.warmed.alike hh0, s1.there X0.warmed.alike hh0, hz, l0, by omega, l2, fun i hi => by rw [Nat.zero_add]; exact hp i hi⟩)
  have e0 := Got.mv _ s₁ s _ _ hh0.symm (Vm.Alike.refl _) rfl E3
  obtain rfl := e0.1
  have c4 : Steps p.tables e below (s₁.setTop (entryFrame m #[.ref a, .ref b] 2)) (T3.setTop (mkF m 9 #[.val (.ref a), .val (.ref b)] [])) := g3
  exact ⟨T3, none, _, _, _, X3, by simp, rfl, by omega, (fun _ => rfl), e0, fun fs hl => c4.trans (X3.returnOut hexec hret (hb hbytes d9) hl)⟩
theorem pays {l : Launch} {R : Room} {p : Program} {e : Env} {below : List Frame} {s : State} {sargs : Array Value} {len W : Nat} (a : Addr) (D : Cell) (fV fC : Field) (b : Addr) (A : Cell) (z : Int32) (htab : tab.before sargs s = true) (hfr : 4 ≤ R.frames) (hlo : W + 65 ≤ R.locals) :
    Back l R p e below s sargs yN len W (fun A₁ a₁ => A₁.cells + 1 ≤ R.cells ∧ A₁.slots + A.slots.size ≤ R.slots ∧ P a D fV fC b A z a₁ A₁.U) (fun A₁ _ v₁ B₁ => E a D fV fC A v₁ A₁.U B₁.U ∧ B₁.locs = A₁.locs ++ [⟨a, fC.slot⟩, ⟨a, fV.slot⟩] ∧ B₁.cells = A₁.cells + 1 ∧ B₁.slots = A₁.slots + A.slots.size) :=
  (law l a D fV fC b A z).pays htab hfr (by omega)
end New1
/-- the byte, read back as charAt reads it, is the char -/
theorem lo8_mask {x : Int32} (h0 : ¬ x < 0) (h1 : ¬ 255 < x) : lo8 x &&& 255 = x := by
  have t : ∀ k : Fin 256, lo8 (Int32.ofNat k.val) &&& 255 = Int32.ofNat k.val := by decide +kernel
  rw [Int32.lt_iff_toInt_lt] at h0 h1
  have e0 : (0 : Int32).toInt = 0 := rfl
  have e1 : (255 : Int32).toInt = 255 := rfl
  obtain ⟨k, hk⟩ : ∃ k : Nat, x.toInt = k := ⟨x.toInt.toNat, by omega⟩
  have hx : x = Int32.ofNat k := Int32.toInt_inj.mp (by rw [hk, Int32.toInt_ofNat_small (by omega)])
  rw [hx]
  exact t ⟨k, by omega⟩
end StrChars
namespace StrChars.Road
open Jvm Sem ClassFile Op Lib Jvm.Stand Jvm.Free Jvm.Free.XT
open Jvm.Lib.Cold (StaticIs)
abbrev ST : String := "java/lang/String"
/-- every table word that New1's law asks, flat -/
abbrev words : List Jvm.Cond := [.code New1.yN New1.yB 2 none, .initialized ST, .methodLink ST 27 New4.yN, .instanceMethod New4.yN,
  .code New4.yN New4.yB 6 none, .fieldLink ST 38 ST "COMPACT_STRINGS" "Z", .laysFinal ST ST "value" "[B", .fieldLink ST 9 ST "value" "[B", .laysFinal ST ST "coder" "B", .fieldLink ST 15 ST "coder" "B",
  .methodLink ST 1 Lib.objectInit, .instanceMethod Lib.objectInit, .code Lib.objectInit ⟨#[0xb1]⟩ 1 none, .methodLink ST 177 Cmp3.yN, .static Cmp3.yN, .methodLink ST 47 CodL.yN, .static CodL.yN,
  .code Cmp3.yN Cmp3.yB 6 (some (.array .byte)), .initialized U16, .arrayClass .byte, .methodLink U16 115 Cmp5.yN, .static Cmp5.yN, .code Cmp5.yN Cmp5.yB 7 (some .int), .code CodL.yN CodL.yB 2 (some .byte)]
theorem tab_of {a : Array Value} {s : State} (h : ∀ w ∈ words, w.before a s = true) : New1.tab.before a s = true := by
  have h5 : Cmp5.tab.before a s = true := unparts (wk h (.code Cmp5.yN Cmp5.yB 7 (some .int))) (wks h (.initialized Cmp5.yN.cls :: Cmp5.site))
  have hc : CodL.tab.before a s = true := unparts (wk h (.code CodL.yN CodL.yB 2 (some .byte))) (wks h (.initialized CodL.yN.cls :: CodL.site))
  have q5 : ∀ w ∈ Cmp5.tab :: words, w.before a s = true := fun w hw => (List.mem_cons.mp hw).elim (fun e => e ▸ h5) (h w)
  have h3 : Cmp3.tab.before a s = true := unparts (wk q5 (.code Cmp3.yN Cmp3.yB 6 (some (.array .byte)))) (wks q5 (.initialized Cmp3.yN.cls :: Cmp3.site))
  have q3 : ∀ w ∈ Cmp3.tab :: CodL.tab :: words, w.before a s = true := fun w hw => (List.mem_cons.mp hw).elim (fun e => e ▸ h3) fun hw => (List.mem_cons.mp hw).elim (fun e => e ▸ hc) (h w)
  have h4 : New4.tab.before a s = true := unparts (wk q3 (.code New4.yN New4.yB 6 none)) (wks q3 (.initialized New4.yN.cls :: New4.site))
  have q4 : ∀ w ∈ New4.tab :: words, w.before a s = true := fun w hw => (List.mem_cons.mp hw).elim (fun e => e ▸ h4) (h w)
  exact unparts (wk q4 (.code New1.yN New1.yB 2 none)) (wks q4 (.initialized New1.yN.cls :: New1.site))
/-- the words ride from the start Z to the walk's own state -/
theorem moved {Z s : State} {a0 args : Array Value} (hZ : Z.Warmed39 s.vm) (hw : ∀ d ∈ words, d.before a0 Z = true) : ∀ d ∈ words, d.before args s = true := fun d hd => by
  have q := hw d hd
  have t : ∀ d ∈ words, d = .arrayClass .byte ∨ (d.onTables && d.keepsFace) = true := by decide +kernel
  rcases t d hd with rfl | t
  · exact RoadKit.mvA hZ q
  · exact RoadKit.mv hZ q t
/-- WHAT COMES BACK, over the tables of the start Z: h the heap at the call, h' behind it -/
def Q (Z : State) (x : Addr) (A : Cell) (h : Heap) (v : Option Value) (h' : Heap) (L : List Loc) : Prop := v = none ∧ (∀ y ∈ L, y.base = x) ∧ RoadKit.Keep h h' [x] ∧ h'.size = h.size + 1 ∧ RoadKit.Exa Z h' x ST ∧ RoadKit.Fld Z h' x ST "value" "[B" (.ref h.size) ∧ RoadKit.Fld Z h' x ST "coder" "B" (.int 0) ∧
  (∃ V : Cell, RoadKit.Arr Z h' h.size V .byte ∧ V.vm = .none ∧ Z.vm.findClass "[B" = some V.cls ∧ V.slots.size = A.slots.size ∧ ∀ j, j < A.slots.size → V.slots[j]? = some (.int (lo8 (cv A j)))) ∧
  ∀ (O n d : String) (w : Value), RoadKit.Fld Z h x O n d w → RoadKit.slotOf Z O n d ≠ RoadKit.slotOf Z ST "value" "[B" → RoadKit.slotOf Z O n d ≠ RoadKit.slotOf Z ST "coder" "B" → RoadKit.Fld Z h' x O n d w
/-- **new String(chars) AT A CALL, IN THE ROAD'S FORM**: for specialBack behind newO: x the fresh String, b the char[] with the cell A -/
theorem back {p : Program} {l : Launch} {e : Env} {R : Room} {s : State} {args : Array Value} {below : List Frame} {len W : Nat} {Z : State} {a0 : Array Value} {h : Heap} (hZ : Z.Warmed39 s.vm) (hw : ∀ d ∈ words, d.before a0 Z = true) {kI : Nat} (wi : (Jvm.Cond.instantiable ST kI).before a0 Z = true)
    {x b : Addr} {A : Cell} {z : Int32} {v0 c0 : Value} (E : RoadKit.Exa Z h x ST) (V : RoadKit.Fld Z h x ST "value" "[B" v0) (C : RoadKit.Fld Z h x ST "coder" "B" c0) (K : RoadKit.Arr Z h b A .char) (hty : Typed .char A) (S : RoadKit.Sta Z h ST "COMPACT_STRINGS" "Z" (.int z)) (hz : ¬ z = 0)
    (l0 : 0 < A.slots.size) (l2 : A.slots.size ≤ 536870912) (hp : ∀ i, i < A.slots.size → ¬ 255 < cv A i) (hfr : 4 ≤ R.frames) (hlo : W + 65 ≤ R.locals) :
    Back l R p e below s args New1.yN len W (fun P a => a = #[.ref x, .ref b] ∧ P.U.heap = h ∧ P.cells + 1 ≤ R.cells ∧ P.slots + A.slots.size ≤ R.slots)
      (fun P _ v B => ∃ L, Q Z x A h v B.U.heap L ∧ B.locs = P.locs ++ L ∧ B.cells = P.cells + 1 ∧ B.slots = P.slots + A.slots.size) := by
  intro m meth c P g ig mk a X hg hsize hdg hW hn hp'
  obtain ⟨rfl, rfl, r1, r2⟩ := hp'
  have al : Z.vm.Alike P.U.vm := hZ.alike.trans X.warmed.alike
  obtain ⟨D, cfV, kV, iV, fV, hD, gV, stV, knV, obV, asV, slV⟩ := id V
  obtain ⟨D', cfC, kC, iC, fC, hD', gC, stC, -, -, asC, slC⟩ := id C
  cases hD.symm.trans hD'
  obtain ⟨D2, kD, e1, e2, e3, e4, e5⟩ := id E
  cases hD.symm.trans e1
  obtain ⟨c2, k2, i1, i2, i3, -⟩ := Cond.instantiable_spec wi
  cases e2.symm.trans i1
  cases e3.symm.trans i2
  obtain ⟨kU, u1, u2⟩ := al.2.2 _ _ e3
  have hB : Blank ST x D P.U := ⟨hD, ⟨knV, fun q hq => by rw [hq] at obV; cases obV⟩, by rw [al.findClass]; exact e2, kU, u1, by rw [u2]; exact i3, by rw [u2]; exact e5 i3⟩
  have F1 : Found ST "value" "[B" fV P.U := ⟨SBG.found_only al ⟨cfV, kV, iV, gV⟩, stV⟩
  have F2 : Found ST "coder" "B" fC P.U := ⟨SBG.found_only al ⟨cfC, kC, iC, gC⟩, stC⟩
  have hA : Ch b A P.U := ⟨⟨K.1, State.isArrayOf_alike al K.2.1, K.2.2, by omega⟩, hty⟩
  have hS : StaticIs P.U ST "COMPACT_STRINGS" "Z" (.int z) := by
    obtain ⟨cfS, iS, kS, fS, st, cS, t1, t2, t3, t4, t5, t6, t7⟩ := S
    exact StaticIs.there (s := { Z with heap := P.U.heap }) ⟨cfS, iS, kS, fS, st, cS, t1, t2, t3, t4, t5, (fun q => by rw [q] at t6; cases t6), t7⟩ al rfl
  obtain ⟨v, B, X', ⟨⟨hv, E', V', q1, q2, q3, q4, q5, q6, q7, q8, q9, q10, q11⟩, hl, hc, hs⟩, st⟩ := New1.pays x D fV fC b A z (tab_of (moved hZ hw)) hfr hlo m meth c P g ig mk _ X hg hsize hdg hW hn ⟨r1, r2, rfl, hB, F1, F2, hA, hS, hz, l0, l2, hp⟩
  have al' : Z.vm.Alike B.U.vm := hZ.alike.trans X'.warmed.alike
  have hsz : E'.slots.size = D.slots.size := by
    obtain ⟨-, -, -, kB, w1, w2, w3⟩ := q1
    obtain ⟨kB', y1, y2⟩ := al'.2.2 _ _ e3
    rw [q2.2.1] at w1
    cases w1.symm.trans y1
    rw [w3, e5 i3, y2]
  refine ⟨v, B, X', ⟨_, ⟨hv, ?_, ⟨by omega, fun y cy hy hn' => q10 y cy (by simpa using hn') hy, fun y cy hy => ?_⟩, q11, ⟨E', _, q1.1, by rw [q2.2.1]; exact e2, by rw [q2.2.1]; exact e3, by rw [q2.1]; exact obV, fun _ => by rw [hsz]; exact e5 i3⟩,
    ⟨E', cfV, kV, iV, fV, q1.1, gV, stV, by rw [q2.1]; exact knV, by rw [q2.1]; exact obV, by rw [q2.2.1]; exact asV, q3⟩, ⟨E', cfC, kC, iC, fC, q1.1, gC, stC, by rw [q2.1]; exact knV, by rw [q2.1]; exact obV, by rw [q2.2.1]; exact asC, q4⟩,
    ⟨V', ⟨q5.1, State.isArrayOf_alike al'.symm q5.2.1, q5.2.2.1⟩, q6, by rw [← al'.findClass]; exact q7, q8, fun j hj => by have := q9 j hj; rwa [Nat.zero_add] at this⟩, fun O n d w F n1 n2 => ?_⟩, hl, hc, hs⟩, st⟩
  · intro y hy
    simp only [List.mem_cons, List.not_mem_nil, or_false] at hy
    rcases hy with rfl | rfl <;> rfl
  · by_cases q : y = x
    · subst q
      cases hD.symm.trans hy
      exact ⟨E', q1.1, q2.2.1, q2.1, hsz⟩
    · exact ⟨cy, q10 y cy q hy, rfl, rfl, rfl⟩
  · obtain ⟨D3, cf, k, i, f, g1, g2, g3, g4, g5, g6, g7⟩ := F
    cases hD.symm.trans g1
    simp only [RoadKit.slotOf, g2, gV, gC, Option.map_some, Option.getD_some] at n1 n2
    exact ⟨E', cf, k, i, f, q1.1, g2, g3, by rw [q2.1]; exact g4, by rw [q2.1]; exact g5, by rw [q2.2.1]; exact g6, by rw [q2.2.2 f.slot (by simp [n1, n2])]; exact g7⟩
end StrChars.Road
namespace StrChars.Road
open Jvm Sem ClassFile Op Lib Jvm.Stand Jvm.Free Jvm.Free.XT
/-- WHAT COMES BACK, the byte[] as a list of values -/
def QA (Z : State) (x : Addr) (zn : Int32) (cs : List Int32) (h : Heap) (v : Option Value) (h' : Heap) (L : List Loc) : Prop := v = none ∧ (∀ y ∈ L, y.base = x) ∧ RoadKit.Keep h h' [x] ∧ h'.size = h.size + 1 ∧ RoadKit.Exa Z h' x ST ∧ RoadKit.Fld Z h' x ST "value" "[B" (.ref h.size) ∧ RoadKit.Fld Z h' x ST "coder" "B" (.int 0) ∧
  (∃ kb, Z.vm.findClass "[B" = some kb ∧ RoadKit.Arv Z h' h.size kb .byte zn (cs.map fun c => .int (lo8 c)) (.int 0)) ∧
  ∀ (O n d : String) (w : Value), RoadKit.Fld Z h x O n d w → RoadKit.slotOf Z O n d ≠ RoadKit.slotOf Z ST "value" "[B" → RoadKit.slotOf Z O n d ≠ RoadKit.slotOf Z ST "coder" "B" → RoadKit.Fld Z h' x O n d w
/-- **new String(chars) AT A CALL, THE ARRAYS AS LISTS**: the char[] at b holds cs, not empty, no char above 255 -/
theorem backArv {p : Program} {l : Launch} {e : Env} {R : Room} {s : State} {args : Array Value} {below : List Frame} {len W : Nat} {Z : State} {a0 : Array Value} {h : Heap} (hZ : Z.Warmed39 s.vm) (hw : ∀ d ∈ words, d.before a0 Z = true) {kI : Nat} (wi : (Jvm.Cond.instantiable ST kI).before a0 Z = true)
    {x b : Addr} {k : ClassId} {zn z : Int32} {cs : List Int32} {dv v0 c0 : Value} (E : RoadKit.Exa Z h x ST) (V : RoadKit.Fld Z h x ST "value" "[B" v0) (C : RoadKit.Fld Z h x ST "coder" "B" c0) (K : RoadKit.Arv Z h b k .char zn (cs.map Value.int) dv) (S : RoadKit.Sta Z h ST "COMPACT_STRINGS" "Z" (.int z)) (hz : ¬ z = 0)
    (hlen : zn.toNatClampNeg = cs.length) (h0 : 0 < cs.length) (hbig : cs.length ≤ 536870912) (hall : ∀ c ∈ cs, ¬ 255 < c) (hfr : 4 ≤ R.frames) (hlo : W + 65 ≤ R.locals) :
    Back l R p e below s args New1.yN len W (fun P a => a = #[.ref x, .ref b] ∧ P.U.heap = h ∧ P.cells + 1 ≤ R.cells ∧ P.slots + cs.length ≤ R.slots)
      (fun P _ v B => ∃ L, QA Z x zn cs h v B.U.heap L ∧ B.locs = P.locs ++ L ∧ B.cells = P.cells + 1 ∧ B.slots = P.slots + cs.length) := by
  obtain ⟨A, K1, K2, K3, K4, K5, K6⟩ := K
  have e : A.slots.size = cs.length := K3.trans hlen
  have hat : ∀ (i : Nat) (hi : i < cs.length), A.slots[i]? = some (.int cs[i]) := fun i hi => by rw [K5 i (by omega)]; simp [List.getD_eq_getElem?_getD, hi]
  have hcv : ∀ (i : Nat) (hi : i < cs.length), cv A i = cs[i] := fun i hi => by unfold cv; rw [hat i hi]
  have hty : Typed .char A := fun i v hv => by
    have hi : i < A.slots.size := (Array.getElem?_eq_some_iff.mp hv).1
    have q := K5 i hi
    rw [hv] at q
    rw [Option.some.inj q]
    exact K6 i hi
  refine Back.mono (back hZ hw wi E V C K1 hty S hz (by omega) (by omega) (fun i hi => by rw [hcv i (by omega)]; exact hall _ (List.getElem_mem _)) hfr hlo) (fun P a hp => ⟨hp.1, hp.2.1, hp.2.2.1, by rw [e]; exact hp.2.2.2⟩) (fun P a v B hp hq => ?_)
  obtain ⟨L, ⟨q1, q2, q3, q4, q5, q6, q7, ⟨V', v1, v2, v3, v4, v5⟩, q9⟩, hl, hc, hs⟩ := hq
  refine ⟨L, ⟨q1, q2, q3, q4, q5, q6, q7, ⟨V'.cls, v3, V', v1, rfl, by rw [v4, e, hlen], K4, fun i hi => ?_, fun i hi => ?_⟩, q9⟩, hl, hc, by rw [hs, e]⟩
  · have hi' : i < cs.length := by omega
    rw [v5 i (by omega), hcv i hi']; simp [List.getD_eq_getElem?_getD, hi']
  · have hi' : i < cs.length := by omega
    simp only [List.getD_eq_getElem?_getD, List.getElem?_map, List.getElem?_eq_getElem hi', Option.map_some, Option.getD_some]
    exact fits_lo8 _
end StrChars.Road
namespace StrChars.Road
open Jvm Sem ClassFile Op Lib Jvm.Stand Jvm.Free Jvm.Free.XT
/-- WHAT COMES BACK, in the writer's own shape -/
def QV (Z : State) (x : Addr) (N : Int32) (bs : List Int32) (h : Heap) (n0 : Nat) (v : Option Value) (h' : Heap) (L : List Loc) : Prop := v = none ∧ RoadKit.Fr n0 L ∧ RoadKit.Keep h h' [x] ∧ RoadKit.Exa Z h' x ST ∧ RoadKit.Fld Z h' x ST "coder" "B" (.int 0) ∧
  ∃ (t : Addr) (kb : ClassId), n0 ≤ t ∧ h.size ≤ t ∧ ¬ t = x ∧ RoadKit.Fld Z h' x ST "value" "[B" (.ref t) ∧ RoadKit.Arv Z h' t kb .byte N (bs.map Value.int) (.int 0)
/-- **new String(chars) AT A CALL, FOR THE WRITER**: a char[] of n known ints, each 0 to 255 -/
theorem backV {p : Program} {l : Launch} {e : Env} {R : Room} {s : State} {args : Array Value} {below : List Frame} {len W : Nat} {Z : State} {a0 : Array Value} {h : Heap} (hZ : Z.Warmed39 s.vm) (hw : ∀ d ∈ words, d.before a0 Z = true) {kI : Nat} (wi : (Jvm.Cond.instantiable ST kI).before a0 Z = true)
    {x b : Addr} {kC : ClassId} {cs bs : List Int32} {d v0 c0 : Value} {z N : Int32} {n n0 : Nat} (hx0 : n0 ≤ x) (hh0 : n0 ≤ h.size) (E : RoadKit.Exa Z h x ST) (V : RoadKit.Fld Z h x ST "value" "[B" v0) (C : RoadKit.Fld Z h x ST "coder" "B" c0) (K : RoadKit.Arv Z h b kC .char N (cs.map Value.int) d) (S : RoadKit.Sta Z h ST "COMPACT_STRINGS" "Z" (.int z)) (hz : ¬ z = 0)
    (hn : cs.length = n) (hN : N = Int32.ofNat n) (l0 : 0 < n) (l2 : n ≤ 4000) (hp : ∀ c ∈ cs, ¬ c < 0 ∧ ¬ (255 : Int32) < c) (hb : bs = cs.map (fun c => c.toInt8.toInt32)) (hfr : 4 ≤ R.frames) (hlo : W + 65 ≤ R.locals) :
    Back l R p e below s args (⟨"java/lang/String", "<init>", "([C)V"⟩ : MethodName) len W (fun P a => a = #[.ref x, .ref b] ∧ P.U.heap = h ∧ P.cells + 1 ≤ R.cells ∧ P.slots + n ≤ R.slots)
      (fun P _ v B => ∃ L, QV Z x N bs h n0 v B.U.heap L ∧ B.locs = P.locs ++ L ∧ B.cells = P.cells + 1 ∧ B.slots = P.slots + n) := by
  subst hn hN hb
  refine Back.mono (backArv hZ hw wi E V C K S hz (n32 (by omega)) l0 (by omega) (fun c hc => (hp c hc).2) hfr hlo) (fun P a hp => hp) (fun P a v B hp hq => ?_)
  obtain ⟨L, ⟨q1, q2, q3, q4, q5, q6, q7, ⟨kb, v1, v2⟩, q9⟩, hl, hc, hs⟩ := hq
  exact ⟨L, ⟨q1, fun y hy => by rw [q2 y hy]; exact hx0, q3, q5, q7, h.size, kb, hh0, Nat.le_refl _, Nat.ne_of_gt E.lt, q6, by rw [List.map_map]; exact v2⟩, hl, hc, hs⟩
end StrChars.Road
namespace StrChars
open Jvm Sem ClassFile Op Lib Jvm.Stand Jvm.Free.XT Jvm.Free.ALB Jvm.Free.JM Jvm.Free
open Jvm.Lib.Cold (StaticIs)
def hi8 (x : Int32) : Int32 := lo8 (x >>> ((8 : Int32) &&& 31))
/-- what StringUTF16.getChar makes of two bytes -/
def pairCh (u v : Int32) : Int32 := (((u &&& 255) <<< ((0 : Int32) &&& 31)) ||| ((v &&& 255) <<< ((8 : Int32) &&& 31))).toUInt32.toUInt16.toUInt32.toInt32
theorem lo8_and (x : Int32) : (lo8 x &&& 255).toBitVec.toNat = x.toBitVec.toNat % 256 := by
  have h : (lo8 x).toBitVec = (x.toBitVec.signExtend 8).signExtend 32 := by rw [lo8, Int8.toBitVec_toInt32, Int32.toBitVec_toInt8]
  rw [Int32.toBitVec_and, BitVec.toNat_and, h]
  have e : ((x.toBitVec.signExtend 8).signExtend 32).toNat % 256 = x.toBitVec.toNat % 256 := by
    rw [BitVec.toNat_signExtend]
    have hlt := x.toBitVec.isLt
    simp only [BitVec.toNat_setWidth, BitVec.toNat_signExtend]
    split <;> split <;> omega
  rw [← e]
  exact Nat.and_two_pow_sub_one_eq_mod _ 8
theorem pair_says {c : Int32} (h0 : ¬ c < 0) (h1 : ¬ 65535 < c) : pairCh (lo8 c) (hi8 c) = c := by
  rw [Int32.lt_iff_toInt_lt] at h0 h1
  have e0 : (0 : Int32).toInt = 0 := rfl
  have e1 : (65535 : Int32).toInt = 65535 := rfl
  have hc : c.toInt = c.toBitVec.toNat := by
    have := c.toBitVec.isLt
    have e : c.toInt = c.toBitVec.toInt := rfl
    rw [e] at h0 h1
    rw [e]
    rw [BitVec.toInt_eq_toNat_cond] at h0 h1 ⊢
    split at h0 <;> split <;> omega
  have hn : c.toBitVec.toNat < 65536 := by omega
  have a1 := lo8_and c
  have a2 : (hi8 c &&& 255).toBitVec.toNat = c.toBitVec.toNat / 256 := by
    rw [hi8, lo8_and]
    have e : ((8 : Int32) &&& 31) = 8 := by decide
    rw [e, Int32.toBitVec_shiftRight]
    have e2 : ((8 : Int32).toBitVec.smod 32) = 8#32 := by decide
    rw [e2, BitVec.sshiftRight_eq', BitVec.toNat_sshiftRight_of_msb_false (by rw [BitVec.msb_eq_false_iff_two_mul_lt]; omega)]
    show c.toBitVec.toNat >>> 8 % 256 = _
    rw [Nat.shiftRight_eq_div_pow]
    omega
  unfold pairCh
  apply Int32.toBitVec_inj.mp
  apply BitVec.eq_of_toNat_eq
  have f0 : ((0 : Int32) &&& 31) = 0 := by decide
  have f8 : ((8 : Int32) &&& 31) = 8 := by decide
  rw [f0, f8]
  have g : (((lo8 c &&& 255) <<< (0 : Int32)) ||| ((hi8 c &&& 255) <<< (8 : Int32))).toBitVec.toNat = c.toBitVec.toNat := by
    rw [Int32.toBitVec_or, Int32.toBitVec_shiftLeft, Int32.toBitVec_shiftLeft]
    have s0 : ((0 : Int32).toBitVec.smod 32) = 0#32 := by decide
    have s8 : ((8 : Int32).toBitVec.smod 32) = 8#32 := by decide
    rw [s0, s8, BitVec.toNat_or]
    simp only [BitVec.shiftLeft_eq', BitVec.toNat_shiftLeft, a1, a2]
    show (c.toBitVec.toNat % 256) <<< 0 % 2 ^ 32 ||| (c.toBitVec.toNat / 256) <<< 8 % 2 ^ 32 = _
    rw [Nat.shiftLeft_zero, Nat.mod_eq_of_lt (show c.toBitVec.toNat % 256 < 2 ^ 32 by omega), Nat.mod_eq_of_lt (show (c.toBitVec.toNat / 256) <<< 8 < 2 ^ 32 by rw [Nat.shiftLeft_eq]; omega), Nat.or_comm, ← Nat.shiftLeft_add_eq_or_of_lt (by omega), Nat.shiftLeft_eq]
    omega
  show BitVec.toNat (((((lo8 c &&& 255) <<< (0 : Int32)) ||| ((hi8 c &&& 255) <<< (8 : Int32))).toBitVec.setWidth 16).setWidth 32) = _
  rw [BitVec.toNat_setWidth, BitVec.toNat_setWidth, g]
  omega
end StrChars
namespace StrChars
open Jvm Sem ClassFile Op Lib Jvm.Stand Jvm.Free.XT Jvm.Free.ALB Jvm.Free.JM Jvm.Free
open Jvm.Lib.Cold (StaticIs)
/-- the array's cell V codes the n chars f 0 .. f (n - 1) by the coder cd, as the JDK does: coder 1 just where some char is above 255 -/
def Cod (cd : Int32) (n : Nat) (f : Nat → Int32) (V : Cell) : Prop := (cd = 0 ∧ V.slots.size = n ∧ ∀ j, j < n → V.slots[j]? = some (.int (lo8 (f j))) ∧ ¬ 255 < f j) ∨ (cd = 1 ∧ V.slots.size = 2 * n ∧ (∀ j, j < n → V.slots[2 * j]? = some (.int (lo8 (f j))) ∧ V.slots[2 * j + 1]? = some (.int (hi8 (f j)))) ∧ ∃ j, j < n ∧ 255 < f j)
/-- **x is a String of the n chars f 0 .. f (n - 1)**, Latin-1 or UTF-16; its array at t has the cell V -/
def Txt (x t : Addr) (V : Cell) (cd : Int32) (n : Nat) (f : Nat → Int32) (U : State) : Prop := Exact "java/lang/String" x U ∧ Has x "java/lang/String" "value" "[B" (.ref t) U ∧ Has x "java/lang/String" "coder" "B" (.int cd) U ∧ XT.Arr .byte t V U ∧ Cod cd n f V ∧ ∀ j, j < n → ¬ f j < 0 ∧ ¬ 65535 < f j
theorem Txt.mv {x t : Addr} {V : Cell} {cd : Int32} {n : Nat} {f : Nat → Int32} {U U' : State} (h : Txt x t V cd n f U) (hal : U.vm.Alike U'.vm) (hh : U'.heap = U.heap) : Txt x t V cd n f U' := ⟨h.1.mv hal hh, h.2.1.mv hal hh, h.2.2.1.mv hal hh, h.2.2.2.1.mv hal hh, h.2.2.2.2⟩
end StrChars
namespace StrChars.Road
open Jvm Sem ClassFile Op Lib Jvm.Stand Jvm.Free Jvm.Free.XT
open Jvm.Lib.Cold (StaticIs)
theorem consq {a : Array Value} {s : State} {c : Jvm.Cond} {L : List Jvm.Cond} (h0 : c.before a s = true) (h : ∀ w ∈ L, w.before a s = true) : ∀ w ∈ c :: L, w.before a s = true := fun w hw => (List.mem_cons.mp hw).elim (fun e => e ▸ h0) (h w)
/-- the bytes of the chars cs, low before high -/
def wideBytes : List Int32 → List Value
  | [] => []
  | c :: cs => .int (lo8 c) :: .int (hi8 c) :: wideBytes cs
theorem wide_lo (d : Value) : ∀ (cs : List Int32) (j : Nat), j < cs.length → (wideBytes cs).getD (2 * j) d = .int (lo8 (cs.getD j 0))
  | [], j, h => absurd h (Nat.not_lt_zero j)
  | c :: cs, 0, _ => rfl
  | c :: cs, j + 1, h => by
    have q := wide_lo d cs j (by simpa using h)
    rw [show 2 * (j + 1) = 2 * j + 1 + 1 from by omega]
    simpa [wideBytes] using q
theorem wide_hi (d : Value) : ∀ (cs : List Int32) (j : Nat), j < cs.length → (wideBytes cs).getD (2 * j + 1) d = .int (hi8 (cs.getD j 0))
  | [], j, h => absurd h (Nat.not_lt_zero j)
  | c :: cs, 0, _ => rfl
  | c :: cs, j + 1, h => by
    have q := wide_hi d cs j (by simpa using h)
    rw [show 2 * (j + 1) + 1 = 2 * j + 1 + 1 + 1 from by omega]
    simpa [wideBytes] using q
theorem low_at (d : Value) (cs : List Int32) (j : Nat) (h : j < cs.length) : (cs.map fun c => Value.int (lo8 c)).getD j d = .int (lo8 (cs.getD j 0)) := by
  simp [List.getD_eq_getElem?_getD, h]
/-- an array of N2 bytes vs codes the chars cs by the coder cd -/
def CodA (cs : List Int32) (cd N2 : Int32) (vs : List Value) : Prop := (cd = 0 ∧ N2 = Int32.ofNat cs.length ∧ vs = (cs.map fun c => Value.int (lo8 c)) ∧ ∀ c ∈ cs, ¬ 255 < c) ∨ (cd = 1 ∧ N2 = Int32.ofNat (2 * cs.length) ∧ vs = wideBytes cs ∧ ∃ c ∈ cs, 255 < c)
theorem CodA.cod {cs : List Int32} {cd N2 : Int32} {vs : List Value} {V : Cell} (h : CodA cs cd N2 vs) (hn : 2 * cs.length < 2 ^ 31) (hs : V.slots.size = N2.toNatClampNeg) (hv : RoadKit.Has V vs (.int 0)) : Cod cd cs.length (fun j => cs.getD j 0) V := by
  rcases h with ⟨rfl, rfl, rfl, h⟩ | ⟨rfl, rfl, rfl, c, hc, hw⟩
  · rw [n32 (by omega)] at hs
    exact Or.inl ⟨rfl, hs, fun j hj => ⟨by rw [hv j (by omega), low_at _ _ _ hj], by
      have e : cs.getD j 0 = cs[j] := by simp [List.getD_eq_getElem?_getD, hj]
      show ¬ 255 < cs.getD j 0
      rw [e]; exact h _ (List.getElem_mem _)⟩⟩
  · rw [n32 (by omega)] at hs
    obtain ⟨j, hj, rfl⟩ := List.getElem_of_mem hc
    exact Or.inr ⟨rfl, hs, fun j hj => ⟨by rw [hv _ (by omega), wide_lo _ _ _ hj], by rw [hv _ (by omega), wide_hi _ _ _ hj]⟩, j, hj, by
      have e : cs.getD j 0 = cs[j] := by simp [List.getD_eq_getElem?_getD, hj]
      show 255 < cs.getD j 0
      rw [e]; exact hw⟩
/-- an object of exactly java/lang/String, its two fields found: as the laws ask it -/
theorem strObj {Z U : State} {a0 : Array Value} {kI : Nat} (wi : (Jvm.Cond.instantiable ST kI).before a0 Z = true) (al : Z.vm.Alike U.vm) {x : Addr} {v0 c0 : Value} (E : RoadKit.Exa Z U.heap x ST) (V : RoadKit.Fld Z U.heap x ST "value" "[B" v0) (C : RoadKit.Fld Z U.heap x ST "coder" "B" c0) :
    ∃ (D : Cell) (fV fC : Field), Blank ST x D U ∧ Found ST "value" "[B" fV U ∧ Found ST "coder" "B" fC U ∧ D.slots[fV.slot]? = some v0 ∧ D.slots[fC.slot]? = some c0 ∧ RoadKit.slotOf Z ST "value" "[B" = fV.slot ∧ RoadKit.slotOf Z ST "coder" "B" = fC.slot := by
  obtain ⟨D, cfV, kV, iV, fV, hD, gV, stV, knV, obV, asV, slV⟩ := V
  obtain ⟨D', cfC, kC, iC, fC, hD', gC, stC, -, -, asC, slC⟩ := C
  cases hD.symm.trans hD'
  obtain ⟨D2, kD, e1, e2, e3, e4, e5⟩ := E
  cases hD.symm.trans e1
  obtain ⟨c2, k2, i1, i2, i3, -⟩ := Cond.instantiable_spec wi
  cases e2.symm.trans i1
  cases e3.symm.trans i2
  obtain ⟨kU, u1, u2⟩ := al.2.2 _ _ e3
  exact ⟨D, fV, fC, ⟨hD, ⟨knV, fun q hq => by rw [hq] at obV; cases obV⟩, by rw [al.findClass]; exact e2, kU, u1, by rw [u2]; exact i3, by rw [u2]; exact e5 i3⟩, ⟨SBG.found_only al ⟨cfV, kV, iV, gV⟩, stV⟩, ⟨SBG.found_only al ⟨cfC, kC, iC, gC⟩, stC⟩, slV, slC, by simp [RoadKit.slotOf, gV], by simp [RoadKit.slotOf, gC]⟩
theorem sta_is {Z U : State} (al : Z.vm.Alike U.vm) {C n d : String} {v : Value} (S : RoadKit.Sta Z U.heap C n d v) : StaticIs U C n d v := by
  obtain ⟨cfS, iS, kS, fS, st, cS, t1, t2, t3, t4, t5, t6, t7⟩ := S
  exact StaticIs.there (s := { Z with heap := U.heap }) ⟨cfS, iS, kS, fS, st, cS, t1, t2, t3, t4, t5, (fun q => by rw [q] at t6; cases t6), t7⟩ al rfl
end StrChars.Road
namespace StrChars
open Jvm Sem ClassFile Op Lib Jvm.Stand Jvm.Free.XT Jvm.Free.ALB Jvm.Free.JM Jvm.Free
open Jvm.Lib.Cold (StaticIs)
/-- what place i of a byte[]'s cell holds -/
def yv (A : Cell) (i : Nat) : Int32 := match A.slots[i]? with | some (.int x) => x | _ => 0
theorem yv_get {a : Addr} {A : Cell} {U : State} (h : XT.Arr .byte a A U) (ht : Typed .byte A) {i : Nat} (hi : i < A.slots.size) : A.slots[i]? = some (.int (yv A i)) := by
  have e := Array.getElem?_eq_getElem hi
  have f := ht i _ e
  unfold yv; rw [e]
  generalize A.slots[i] = v at f
  cases v <;> simp [fits] at f ⊢
/-- the two arrays are equal, place for place -/
def EqC (A B : Cell) : Prop := A.slots.size = B.slots.size ∧ ∀ i, i < A.slots.size → yv A i = yv B i
/-- a boolean that says whether p -/
def Says01 (q : Prop) (r : Option Value) (s u : State) : Prop := ∃ v : Int32, r = some (.int v) ∧ u.heap = s.heap ∧ ((v = 1 ∧ q) ∨ (v = 0 ∧ ¬ q))
theorem Says01.mv {q : Prop} : ∀ r (U U' V V' : State), U'.heap = U.heap → V.vm.Alike V'.vm → V'.heap = V.heap → Says01 q r U V → Says01 q r U' V' :=
  fun r U U' V V' h1 _ h2 ⟨v, a, b, c⟩ => ⟨v, a, by rw [h1, h2]; exact b, c⟩
namespace LEq
def yN : MethodName := ⟨"java/lang/StringLatin1", "equals", "([B[B)Z"⟩
abbrev yB : ByteArray := jdk_43_method_13_code
theorem d0 : decode yB 0 = .ok (.aload_n 0, 1) := by decide +kernel
theorem d1 : decode yB 1 = .ok (.arraylength, 1) := by decide +kernel
theorem d2 : decode yB 2 = .ok (.aload_n 1, 1) := by decide +kernel
theorem d3 : decode yB 3 = .ok (.arraylength, 1) := by decide +kernel
theorem d4 : decode yB 4 = .ok (.if_icmp (.ne) 30, 3) := by decide +kernel
theorem d7 : decode yB 7 = .ok (.iconst 0, 1) := by decide +kernel
theorem d8 : decode yB 8 = .ok (.istore_n 2, 1) := by decide +kernel
theorem d9 : decode yB 9 = .ok (.iload_n 2, 1) := by decide +kernel
theorem d10 : decode yB 10 = .ok (.aload_n 0, 1) := by decide +kernel
theorem d11 : decode yB 11 = .ok (.arraylength, 1) := by decide +kernel
theorem d12 : decode yB 12 = .ok (.if_icmp (.ge) 20, 3) := by decide +kernel
theorem d15 : decode yB 15 = .ok (.aload_n 0, 1) := by decide +kernel
theorem d16 : decode yB 16 = .ok (.iload_n 2, 1) := by decide +kernel
theorem d17 : decode yB 17 = .ok (.baload, 1) := by decide +kernel
theorem d18 : decode yB 18 = .ok (.aload_n 1, 1) := by decide +kernel
theorem d19 : decode yB 19 = .ok (.iload_n 2, 1) := by decide +kernel
theorem d20 : decode yB 20 = .ok (.baload, 1) := by decide +kernel
theorem d21 : decode yB 21 = .ok (.if_icmp (.eq) 5, 3) := by decide +kernel
theorem d24 : decode yB 24 = .ok (.iconst 0, 1) := by decide +kernel
theorem d25 : decode yB 25 = .ok (.ireturn, 1) := by decide +kernel
theorem d26 : decode yB 26 = .ok (.iinc 2 1, 3) := by decide +kernel
theorem d29 : decode yB 29 = .ok (.goto (-20), 3) := by decide +kernel
theorem d32 : decode yB 32 = .ok (.iconst 1, 1) := by decide +kernel
theorem d33 : decode yB 33 = .ok (.ireturn, 1) := by decide +kernel
theorem d34 : decode yB 34 = .ok (.iconst 0, 1) := by decide +kernel
theorem d35 : decode yB 35 = .ok (.ireturn, 1) := by decide +kernel
def site : List Cond := []
def tab : Cond := tabOf yN yB 3 (some .boolean) site
def P (a : Addr) (A : Cell) (b : Addr) (B : Cell) (args : Array Value) (s : State) : Prop := args = #[.ref a, .ref b] ∧ XT.Arr .byte a A s ∧ Typed .byte A ∧ XT.Arr .byte b B s ∧ Typed .byte B
/-- whether two byte[] are equal, place for place -/
theorem law (l : Launch) (a : Addr) (A : Cell) (b : Addr) (B : Cell) : Law l yN 2 2 0 0 yB 3 (some .boolean) site (P a A b B) (Says01 (EqC A B)) [] 0 0 := by
  refine Law.of_walk (plainFor_of_name (by decide +kernel)) (by decide +kernel) (by decide +kernel) (by decide) (fun _ _ h => by rw [h.1]; rfl) (fun _ U U' hal hh h => ⟨h.1, h.2.1.mv hal hh, h.2.2.1, h.2.2.2.1.mv hal hh, h.2.2.2.2⟩) (fun r U U' V V' h1 hal h2 h => Says01.mv r U U' V V' h1 hal h2 h) ?_
  intro p e s m args below meth c s₁ X0 hexec hbytes hml hret hlk hnm hown hh0 W hP
  obtain ⟨rfl, hA, tA, hB, tB⟩ := hP
  have a31 := hA.2.2.2
  have b31 := hB.2.2.2
  have hA0 := hA.mv X0.warmed.alike hh0
  have hB0 := hB.mv X0.warmed.alike hh0
  have c1 : Steps p.tables e below (s₁.setTop (entryFrame m #[.ref a, .ref b] 3)) (s₁.setTop (mkF m 0 #[.val (.ref a), .val (.ref b), .unset] [])) := entry rfl
  have c2 : Steps p.tables e below (s₁.setTop (entryFrame m #[.ref a, .ref b] 3)) (s₁.setTop (mkF m 4 #[.val (.ref a), .val (.ref b), .unset] [.int (Int32.ofNat B.slots.size), .int (Int32.ofNat A.slots.size)])) := c1.trans (by
    refine XS.aloadN X0.here hexec rfl (hb hbytes d0) rfl rfl ?_
    refine X0.alen hexec hA0 rfl rfl (hb hbytes d1) ?_
    refine XS.aloadN X0.here hexec rfl (hb hbytes d2) rfl rfl ?_
    refine X0.alen hexec hB0 rfl rfl (hb hbytes d3) ?_
    exact Steps.refl _)
  by_cases hs : A.slots.size = B.slots.size
  · have c3 : Steps p.tables e below (s₁.setTop (entryFrame m #[.ref a, .ref b] 3)) (s₁.setTop (mkF m 9 #[.val (.ref a), .val (.ref b), .val (.int 0)] [])) := c2.trans (by
      refine XS.icmpNo X0.here hexec rfl (hb hbytes d4) rfl (ii_ne_f (by rw [hs])) ?_
      refine iconstV X0.here hexec rfl 0 (hb hbytes d7) (by decide) ?_
      refine XS.istoreN X0.here hexec rfl (hb hbytes d8) rfl rfl ?_
      exact Steps.refl _)
    have loop : ∀ (r i : Nat), i + r = A.slots.size → (∀ j, j < i → yv A j = yv B j) → Steps p.tables e below (s₁.setTop (entryFrame m #[.ref a, .ref b] 3)) (s₁.setTop (mkF m 9 #[.val (.ref a), .val (.ref b), .val (.int (Int32.ofNat i))] [])) → ∃ (pc : Nat) (Ls : Array Slot) (v : Int32), (pc = 25 ∨ pc = 33) ∧ ((v = 1 ∧ EqC A B) ∨ (v = 0 ∧ ¬ EqC A B)) ∧ Steps p.tables e below (s₁.setTop (entryFrame m #[.ref a, .ref b] 3)) (s₁.setTop (mkF m pc Ls [.int v])) := by
      intro r
      induction r with
      | zero =>
        intro i hi he cl
        exact ⟨33, _, 1, Or.inr rfl, Or.inl ⟨rfl, hs, fun j hj => he j (by omega)⟩, cl.trans (by
          refine XS.iloadN X0.here hexec rfl (hb hbytes d9) rfl ?_
          refine XS.aloadN X0.here hexec rfl (hb hbytes d10) rfl rfl ?_
          refine X0.alen hexec hA0 rfl rfl (hb hbytes d11) ?_
          refine XS.icmpYes X0.here hexec rfl (pc0 := 12) rfl (hb hbytes d12) rfl (ii_ge_t (nlt32 (by omega) (by omega))) (by decide) rfl ?_
          refine iconstV X0.here hexec rfl 1 (hb hbytes d32) (by decide) ?_
          exact Steps.refl _)⟩
      | succ r ih =>
        intro i hi he cl
        have c4 : Steps p.tables e below (s₁.setTop (entryFrame m #[.ref a, .ref b] 3)) (s₁.setTop (mkF m 21 #[.val (.ref a), .val (.ref b), .val (.int (Int32.ofNat i))] [.int (yv B i), .int (yv A i)])) := cl.trans (by
          refine XS.iloadN X0.here hexec rfl (hb hbytes d9) rfl ?_
          refine XS.aloadN X0.here hexec rfl (hb hbytes d10) rfl rfl ?_
          refine X0.alen hexec hA0 rfl rfl (hb hbytes d11) ?_
          refine XS.icmpNo X0.here hexec rfl (hb hbytes d12) rfl (ii_ge_f (lt32 (by omega) (by omega))) ?_
          refine XS.aloadN X0.here hexec rfl (hb hbytes d15) rfl rfl ?_
          refine XS.iloadN X0.here hexec rfl (hb hbytes d16) rfl ?_
          refine X0.aget hexec hA0 rfl (yv_get hA tA (i := i) (by omega)) rfl rfl (hb hbytes d17) ?_
          refine XS.aloadN X0.here hexec rfl (hb hbytes d18) rfl rfl ?_
          refine XS.iloadN X0.here hexec rfl (hb hbytes d19) rfl ?_
          refine X0.aget hexec hB0 rfl (yv_get hB tB (i := i) (by omega)) rfl rfl (hb hbytes d20) ?_
          exact Steps.refl _)
        by_cases hv : yv A i = yv B i
        · have c5 : Steps p.tables e below (s₁.setTop (entryFrame m #[.ref a, .ref b] 3)) (s₁.setTop (mkF m 9 #[.val (.ref a), .val (.ref b), .val (.int (Int32.ofNat i + 1))] [])) := c4.trans (by
            refine XS.icmpYes X0.here hexec rfl (pc0 := 21) rfl (hb hbytes d21) rfl (ii_eq_t hv) (by decide) rfl ?_
            refine iincV X0.here hexec rfl 1 (hb hbytes d26) (by decide) rfl rfl ?_
            refine XS.goto X0.here hexec rfl (pc0 := 29) rfl (hb hbytes d29) (by decide) rfl ?_
            exact Steps.refl _)
          rw [succ32] at c5
          exact ih (i + 1) (by omega) (fun j hj => by
            by_cases e : j = i
            · rw [e]; exact hv
            · exact he j (by omega)) c5
        · exact ⟨25, _, 0, Or.inl rfl, Or.inr ⟨rfl, fun q => hv (q.2 i (by omega))⟩, c4.trans (by
            refine XS.icmpNo X0.here hexec rfl (hb hbytes d21) rfl (ii_eq_f hv) ?_
            refine iconstV X0.here hexec rfl 0 (hb hbytes d24) (by decide) ?_
            exact Steps.refl _)⟩
    obtain ⟨pc, Ls, v, hpc, hv, cz⟩ := loop A.slots.size 0 (by omega) (fun j hj => absurd hj (Nat.not_lt_zero j)) c3
    have nv : narrow .boolean (.int v) = .int v := by rcases hv with ⟨rfl, -⟩ | ⟨rfl, -⟩ <;> rfl
    rcases hpc with rfl | rfl
    · exact ⟨s₁, some (.int v), _, _, _, X0, rfl, rfl, rfl, (fun h => by cases h), ⟨v, rfl, hh0, hv⟩, fun fs hl => cz.trans (X0.ireturnOut hexec hret nv (Or.inr (Or.inl rfl)) (hb hbytes d25) hl)⟩
    · exact ⟨s₁, some (.int v), _, _, _, X0, rfl, rfl, rfl, (fun h => by cases h), ⟨v, rfl, hh0, hv⟩, fun fs hl => cz.trans (X0.ireturnOut hexec hret nv (Or.inr (Or.inl rfl)) (hb hbytes d33) hl)⟩
  · have c3 : Steps p.tables e below (s₁.setTop (entryFrame m #[.ref a, .ref b] 3)) (s₁.setTop (mkF m 35 #[.val (.ref a), .val (.ref b), .unset] [.int 0])) := c2.trans (by
      refine XS.icmpYes X0.here hexec rfl (pc0 := 4) rfl (hb hbytes d4) rfl (ii_ne_t (ne32 a31 b31 hs)) (by decide) rfl ?_
      refine iconstV X0.here hexec rfl 0 (hb hbytes d34) (by decide) ?_
      exact Steps.refl _)
    exact ⟨s₁, some (.int 0), _, _, _, X0, rfl, rfl, rfl, (fun h => by cases h), ⟨0, rfl, hh0, Or.inr ⟨rfl, fun q => hs q.1⟩⟩, fun fs hl => c3.trans (X0.ireturnOut hexec hret rfl (Or.inr (Or.inl rfl)) (hb hbytes d35) hl)⟩
end LEq
theorem Cod.ty {cd : Int32} {n : Nat} {f : Nat → Int32} {V : Cell} (h : Cod cd n f V) : Typed .byte V := fun i v hv => by
  have hi : i < V.slots.size := (Array.getElem?_eq_some_iff.mp hv).1
  rcases h with ⟨-, k1, k2⟩ | ⟨-, k1, k2, -⟩
  · rw [(k2 i (by omega)).1] at hv; cases hv; exact fits_lo8 _
  · rcases Nat.mod_two_eq_zero_or_one i with e | e
    · obtain ⟨j, rfl⟩ : ∃ j, i = 2 * j := ⟨i / 2, by omega⟩
      rw [(k2 j (by omega)).1] at hv; cases hv; exact fits_lo8 _
    · obtain ⟨j, rfl⟩ : ∃ j, i = 2 * j + 1 := ⟨i / 2, by omega⟩
      rw [(k2 j (by omega)).2] at hv; cases hv; exact fits_lo8 _
/-- the same text -/
def SameT (n : Nat) (f : Nat → Int32) (k : Nat) (g : Nat → Int32) : Prop := n = k ∧ ∀ j, j < n → f j = g j
theorem lo8_inj {x y : Int32} (h0 : ¬ x < 0) (h1 : ¬ 255 < x) (k0 : ¬ y < 0) (k1 : ¬ 255 < y) (h : lo8 x = lo8 y) : x = y := by
  rw [← lo8_mask h0 h1, ← lo8_mask k0 k1, h]
/-- arrays coded by one coder are equal just where the texts are -/
theorem Cod.eqv {cd : Int32} {n k : Nat} {f g : Nat → Int32} {V V' : Cell} (h : Cod cd n f V) (h' : Cod cd k g V') (hf : ∀ j, j < n → ¬ f j < 0 ∧ ¬ 65535 < f j) (hg : ∀ j, j < k → ¬ g j < 0 ∧ ¬ 65535 < g j) : EqC V V' ↔ SameT n f k g := by
  have yvv : ∀ {W : Cell} {i : Nat} {x : Int32}, W.slots[i]? = some (.int x) → yv W i = x := fun q => by unfold yv; rw [q]
  rcases h with ⟨rfl, k1, k2⟩ | ⟨rfl, k1, k2, -⟩
  · rcases h' with ⟨-, m1, m2⟩ | ⟨e, -⟩
    · constructor
      · rintro ⟨e1, e2⟩
        refine ⟨by omega, fun j hj => ?_⟩
        have q := e2 j (by omega)
        rw [yvv (k2 j hj).1, yvv (m2 j (by omega)).1] at q
        exact lo8_inj (hf j hj).1 (k2 j hj).2 (hg j (by omega)).1 (m2 j (by omega)).2 q
      · rintro ⟨rfl, e2⟩
        refine ⟨by omega, fun j hj => ?_⟩
        rw [yvv (k2 j (by omega)).1, yvv (m2 j (by omega)).1, e2 j (by omega)]
    · exact absurd e (by decide)
  · rcases h' with ⟨e, -⟩ | ⟨-, m1, m2, -⟩
    · exact absurd e (by decide)
    · constructor
      · rintro ⟨e1, e2⟩
        refine ⟨by omega, fun j hj => ?_⟩
        have q1 := e2 (2 * j) (by omega)
        have q2 := e2 (2 * j + 1) (by omega)
        rw [yvv (k2 j hj).1, yvv (m2 j (by omega)).1] at q1
        rw [yvv (k2 j hj).2, yvv (m2 j (by omega)).2] at q2
        rw [← pair_says (hf j hj).1 (hf j hj).2, ← pair_says (hg j (by omega)).1 (hg j (by omega)).2, q1, q2]
      · rintro ⟨rfl, e2⟩
        refine ⟨by omega, fun i hi => ?_⟩
        rcases Nat.mod_two_eq_zero_or_one i with e | e
        · obtain ⟨j, rfl⟩ : ∃ j, i = 2 * j := ⟨i / 2, by omega⟩
          rw [yvv (k2 j (by omega)).1, yvv (m2 j (by omega)).1, e2 j (by omega)]
        · obtain ⟨j, rfl⟩ : ∃ j, i = 2 * j + 1 := ⟨i / 2, by omega⟩
          rw [yvv (k2 j (by omega)).2, yvv (m2 j (by omega)).2, e2 j (by omega)]
/-- two codings differ: so do the texts -/
theorem Cod.dif {cd cd' : Int32} {n k : Nat} {f g : Nat → Int32} {V V' : Cell} (h : Cod cd n f V) (h' : Cod cd' k g V') (hne : ¬ cd = cd') : ¬ SameT n f k g := by
  rintro ⟨rfl, e⟩
  rcases h with ⟨rfl, -, k2⟩ | ⟨rfl, -, -, j, hj, hw⟩
  · rcases h' with ⟨rfl, -⟩ | ⟨-, -, -, j, hj, hw⟩
    · exact hne rfl
    · exact (k2 j hj).2 (by rw [e j hj]; exact hw)
  · rcases h' with ⟨-, -, m2⟩ | ⟨rfl, -⟩
    · exact (m2 j hj).2 (by rw [← e j hj]; exact hw)
    · exact hne rfl
/-- an object of exactly C is an instance of C -/
theorem cinst {p : Program} {l : Launch} {e : Env} {R : Room} {s : State} {m : MethodId} {args : Array Value} {below : List Frame} {meth : Method} {c : Code} {T : State} {locs : List Loc} {cells slots : Nat} (X : Stand p l e R s m args below meth c T locs cells slots) (hexec : p.tables.exec = Jvm.exec) {own C : String} {index : Nat} (hown : s.vm.findClass own = some m.cls) (hlink : (Cond.classLink own index C).before args s = true) {a : Addr} (hE : Exact C a T)
    {g : JFrame} (hg : g.method = m) {rest : List Value} (hstack : g.stack = .ref a :: rest) (hdg : decode c.code g.pc = .ok (.instanceof index, 3)) :
    ∃ T', Stand p l e R s m args below meth c T' locs cells slots ∧ T'.heap = T.heap ∧ ∀ target, Steps p.tables e below (T'.setTop { g with pc := g.pc + 3, stack := .int 1 :: rest }) target → Steps p.tables e below (T.setTop g) target := by
  obtain ⟨cB, h1, D, h2, h3, h4⟩ := hE
  have h1' : s.vm.findClass C = some cB := by rw [← X.warmed.alike.findClass]; exact h1
  obtain ⟨vm', X', st⟩ := X.instanceofYes hexec hown hlink h2 h4 h1' (by rw [h3]; exact Jvm.Free.SB.assignable_self _ _) hg hstack hdg
  exact ⟨_, X', rfl, st⟩
theorem cself {p : Program} {l : Launch} {e : Env} {R : Room} {s : State} {m : MethodId} {args : Array Value} {below : List Frame} {meth : Method} {c : Code} {T : State} {locs : List Loc} {cells slots : Nat} (X : Stand p l e R s m args below meth c T locs cells slots) (hexec : p.tables.exec = Jvm.exec) {own C : String} {index : Nat} (hown : s.vm.findClass own = some m.cls) (hlink : (Cond.classLink own index C).before args s = true) {a : Addr} (hE : Exact C a T)
    {g : JFrame} (hg : g.method = m) {rest : List Value} (hstack : g.stack = .ref a :: rest) (hdg : decode c.code g.pc = .ok (.checkcast index, 3)) :
    ∃ T', Stand p l e R s m args below meth c T' locs cells slots ∧ T'.heap = T.heap ∧ ∀ target, Steps p.tables e below (T'.setTop { g with pc := g.pc + 3, stack := .ref a :: rest }) target → Steps p.tables e below (T.setTop g) target := by
  obtain ⟨cB, h1, D, h2, h3, h4⟩ := hE
  have h1' : s.vm.findClass C = some cB := by rw [← X.warmed.alike.findClass]; exact h1
  obtain ⟨vm', X', st⟩ := X.checkcastYes hexec hown hlink h2 h4 h1' (by rw [h3]; exact Jvm.Free.SB.assignable_self _ _) hg hstack hdg
  exact ⟨_, X', rfl, fun t h => st t (by rw [← hstack] at h; exact h)⟩
namespace SEq
def yN : MethodName := ⟨"java/lang/String", "equals", "(Ljava/lang/Object;)Z"⟩
abbrev yB : ByteArray := jdk_42_method_66_code
theorem d0 : decode yB 0 = .ok (.aload_n 0, 1) := by decide +kernel
theorem d1 : decode yB 1 = .ok (.aload_n 1, 1) := by decide +kernel
theorem d2 : decode yB 2 = .ok (.if_acmp (.ne) 5, 3) := by decide +kernel
theorem d5 : decode yB 5 = .ok (.iconst 1, 1) := by decide +kernel
theorem d6 : decode yB 6 = .ok (.ireturn, 1) := by decide +kernel
theorem d7 : decode yB 7 = .ok (.aload_n 1, 1) := by decide +kernel
theorem d8 : decode yB 8 = .ok (.instanceof 10, 3) := by decide +kernel
theorem d11 : decode yB 11 = .ok (.ifCond (.eq) 43, 3) := by decide +kernel
theorem d14 : decode yB 14 = .ok (.aload_n 1, 1) := by decide +kernel
theorem d15 : decode yB 15 = .ok (.checkcast 10, 3) := by decide +kernel
theorem d18 : decode yB 18 = .ok (.astore_n 2, 1) := by decide +kernel
theorem d19 : decode yB 19 = .ok (.getstatic 38, 3) := by decide +kernel
theorem d22 : decode yB 22 = .ok (.ifCond (.eq) 14, 3) := by decide +kernel
theorem d25 : decode yB 25 = .ok (.aload_n 0, 1) := by decide +kernel
theorem d26 : decode yB 26 = .ok (.getfield 15, 3) := by decide +kernel
theorem d29 : decode yB 29 = .ok (.aload_n 2, 1) := by decide +kernel
theorem d30 : decode yB 30 = .ok (.getfield 15, 3) := by decide +kernel
theorem d33 : decode yB 33 = .ok (.if_icmp (.ne) 21, 3) := by decide +kernel
theorem d36 : decode yB 36 = .ok (.aload_n 0, 1) := by decide +kernel
theorem d37 : decode yB 37 = .ok (.getfield 9, 3) := by decide +kernel
theorem d40 : decode yB 40 = .ok (.aload_n 2, 1) := by decide +kernel
theorem d41 : decode yB 41 = .ok (.getfield 9, 3) := by decide +kernel
theorem d44 : decode yB 44 = .ok (.invokestatic 541, 3) := by decide +kernel
theorem d47 : decode yB 47 = .ok (.ifCond (.eq) 7, 3) := by decide +kernel
theorem d50 : decode yB 50 = .ok (.iconst 1, 1) := by decide +kernel
theorem d51 : decode yB 51 = .ok (.goto 4, 3) := by decide +kernel
theorem d54 : decode yB 54 = .ok (.iconst 0, 1) := by decide +kernel
theorem d55 : decode yB 55 = .ok (.ireturn, 1) := by decide +kernel
def site : List Cond := [.classLink "java/lang/String" 10 "java/lang/String", .fieldLink "java/lang/String" 38 "java/lang/String" "COMPACT_STRINGS" "Z", .fieldLink "java/lang/String" 15 "java/lang/String" "coder" "B", .fieldLink "java/lang/String" 9 "java/lang/String" "value" "[B", LEq.tab] ++ staticW "java/lang/String" 541 LEq.yN
def tab : Cond := tabOf yN yB 3 (some .boolean) site
def P (x t : Addr) (V : Cell) (cd : Int32) (n : Nat) (f : Nat → Int32) (y t' : Addr) (V' : Cell) (cd' : Int32) (k : Nat) (g : Nat → Int32) (z : Int32) (args : Array Value) (s : State) : Prop := args = #[.ref x, .ref y] ∧ Txt x t V cd n f s ∧ Txt y t' V' cd' k g s ∧ StaticIs s "java/lang/String" "COMPACT_STRINGS" "Z" (.int z) ∧ ¬ z = 0
/-- equals(Object) of two Strings: whether the texts are the same -/
theorem law (l : Launch) (x t : Addr) (V : Cell) (cd : Int32) (n : Nat) (f : Nat → Int32) (y t' : Addr) (V' : Cell) (cd' : Int32) (k : Nat) (g : Nat → Int32) (z : Int32) : Law l yN 2 1 1 14 yB 3 (some .boolean) site (P x t V cd n f y t' V' cd' k g z) (Says01 (SameT n f k g)) [] 0 0 := by
  refine Law.of_walk (plainFor_of_name (by decide +kernel)) (by decide +kernel) (by decide +kernel) (by decide) (fun _ _ h => by rw [h.1]; rfl) (fun _ U U' hal hh h => ⟨h.1, h.2.1.mv hal hh, h.2.2.1.mv hal hh, h.2.2.2.1.there hal hh, h.2.2.2.2⟩) (fun r U U' V V' h1 hal h2 h => Says01.mv r U U' V V' h1 hal h2 h) ?_
  intro p e s m args below meth c s₁ X0 hexec hbytes hml hret hlk hnm hown hh0 W hP
  obtain ⟨rfl, hx, hy, s1, hz⟩ := hP
  have c1 : Steps p.tables e below (s₁.setTop (entryFrame m #[.ref x, .ref y] 3)) (s₁.setTop (mkF m 2 #[.val (.ref x), .val (.ref y), .unset] [.ref y, .ref x])) := Steps.trans (entry rfl) (by
    show Steps p.tables e below (s₁.setTop (mkF m 0 #[.val (.ref x), .val (.ref y), .unset] [])) _
    refine XS.aloadN X0.here hexec rfl (hb hbytes d0) rfl rfl ?_
    refine XS.aloadN X0.here hexec rfl (hb hbytes d1) rfl rfl ?_
    exact Steps.refl _)
  by_cases hxy : x = y
  · have c2 : Steps p.tables e below (s₁.setTop (entryFrame m #[.ref x, .ref y] 3)) (s₁.setTop (mkF m 6 #[.val (.ref x), .val (.ref y), .unset] [.int 1])) := c1.trans (by
      refine acmpNo X0.here hexec rfl (hb hbytes d2) rfl rfl rfl (by simp [acmp, hxy]) ?_
      refine iconstV X0.here hexec rfl 1 (hb hbytes d5) (by decide) ?_
      exact Steps.refl _)
    subst hxy
    have ec : cd = cd' := by
      obtain ⟨D, fd, a1, a2, a3⟩ := hx.2.2.1
      obtain ⟨D', fd', b1, b2, b3⟩ := hy.2.2.1
      cases a1.symm.trans b1
      obtain ⟨q1, q2, q3, q4⟩ := a2.1
      obtain ⟨r1, r2, r3, r4⟩ := b2.1
      cases q4.symm.trans r4
      cases a3.symm.trans b3; rfl
    have et : t = t' := by
      obtain ⟨D, fd, a1, a2, a3⟩ := hx.2.1
      obtain ⟨D', fd', b1, b2, b3⟩ := hy.2.1
      cases a1.symm.trans b1
      obtain ⟨q1, q2, q3, q4⟩ := a2.1
      obtain ⟨r1, r2, r3, r4⟩ := b2.1
      cases q4.symm.trans r4
      cases a3.symm.trans b3; rfl
    subst ec et
    have ev : V = V' := by cases hx.2.2.2.1.1.symm.trans hy.2.2.2.1.1; rfl
    subst ev
    have hs : SameT n f k g := (Cod.eqv hx.2.2.2.2.1 hy.2.2.2.2.1 hx.2.2.2.2.2 hy.2.2.2.2.2).mp ⟨rfl, fun _ _ => rfl⟩
    exact ⟨s₁, some (.int 1), _, _, _, X0, rfl, rfl, rfl, (fun h => by cases h), ⟨1, rfl, hh0, Or.inl ⟨rfl, hs⟩⟩, fun fs hl => c2.trans (X0.ireturnOut hexec hret rfl (Or.inr (Or.inl rfl)) (hb hbytes d6) hl)⟩
  · have c2 : Steps p.tables e below (s₁.setTop (entryFrame m #[.ref x, .ref y] 3)) (s₁.setTop (mkF m 8 #[.val (.ref x), .val (.ref y), .unset] [.ref y])) := c1.trans (by
      refine acmpYes X0.here hexec rfl (pc0 := 2) rfl (hb hbytes d2) rfl rfl rfl (by simp [acmp, hxy]) (by decide) rfl ?_
      refine XS.aloadN X0.here hexec rfl (hb hbytes d7) rfl rfl ?_
      exact Steps.refl _)
    obtain ⟨T3, X3, q3, st3⟩ := cinst X0 hexec hown (wk W (.classLink "java/lang/String" 10 "java/lang/String")) (hy.mv X0.warmed.alike hh0).1 (g := (mkF m 8 #[.val (.ref x), .val (.ref y), .unset] [.ref y])) rfl (rest := []) rfl (hb hbytes d8)
    have hh3 := q3.trans hh0
    have c4 : Steps p.tables e below (s₁.setTop (entryFrame m #[.ref x, .ref y] 3)) (T3.setTop (mkF m 15 #[.val (.ref x), .val (.ref y), .unset] [.ref y])) := (c2.trans (st3 _ (Steps.refl _))).trans (by
      refine XS.ifNo X3.here hexec rfl (hb hbytes d11) rfl (i0_eq_f (by decide)) ?_
      refine XS.aloadN X3.here hexec rfl (hb hbytes d14) rfl rfl ?_
      exact Steps.refl _)
    obtain ⟨T5, X5, q5, st5⟩ := cself X3 hexec hown (wk W (.classLink "java/lang/String" 10 "java/lang/String")) (hy.mv X3.warmed.alike hh3).1 (g := (mkF m 15 #[.val (.ref x), .val (.ref y), .unset] [.ref y])) rfl (rest := []) rfl (hb hbytes d15)
    have hh5 := q5.trans hh3
    have c6 : Steps p.tables e below (s₁.setTop (entryFrame m #[.ref x, .ref y] 3)) (T5.setTop (mkF m 19 #[.val (.ref x), .val (.ref y), .val (.ref y)] [])) := (c4.trans (st5 _ (Steps.refl _))).trans (by
      refine XS.astoreN X5.here hexec rfl (hb hbytes d18) rfl rfl rfl ?_
      exact Steps.refl _)
    obtain ⟨T7, X7, q7, st7⟩ := X5.sget hexec hown (wk W (.fieldLink "java/lang/String" 38 "java/lang/String" "COMPACT_STRINGS" "Z")) s1 (fun _ _ h => by rw [hh5]; exact h) (g := (mkF m 19 #[.val (.ref x), .val (.ref y), .val (.ref y)] [])) rfl (hb hbytes d19)
    have hh7 := q7.trans hh5
    have c8 : Steps p.tables e below (s₁.setTop (entryFrame m #[.ref x, .ref y] 3)) (T7.setTop (mkF m 26 #[.val (.ref x), .val (.ref y), .val (.ref y)] [.ref x])) := (c6.trans (st7 _ (Steps.refl _))).trans (by
      refine XS.ifNo X7.here hexec rfl (hb hbytes d22) rfl (i0_eq_f hz) ?_
      refine XS.aloadN X7.here hexec rfl (hb hbytes d25) rfl rfl ?_
      exact Steps.refl _)
    obtain ⟨T9, X9, q9, st9⟩ := X7.hget hexec hown (wk W (.fieldLink "java/lang/String" 15 "java/lang/String" "coder" "B")) (hx.mv X7.warmed.alike hh7).2.2.1 (g := (mkF m 26 #[.val (.ref x), .val (.ref y), .val (.ref y)] [.ref x])) rfl (rest := []) rfl (hb hbytes d26)
    have hh9 := q9.trans hh7
    have c10 : Steps p.tables e below (s₁.setTop (entryFrame m #[.ref x, .ref y] 3)) (T9.setTop (mkF m 30 #[.val (.ref x), .val (.ref y), .val (.ref y)] [.ref y, .int cd])) := (c8.trans (st9 _ (Steps.refl _))).trans (by
      refine XS.aloadN X9.here hexec rfl (hb hbytes d29) rfl rfl ?_
      exact Steps.refl _)
    obtain ⟨T11, X11, q11, st11⟩ := X9.hget hexec hown (wk W (.fieldLink "java/lang/String" 15 "java/lang/String" "coder" "B")) (hy.mv X9.warmed.alike hh9).2.2.1 (g := (mkF m 30 #[.val (.ref x), .val (.ref y), .val (.ref y)] [.ref y, .int cd])) rfl (rest := [.int cd]) rfl (hb hbytes d30)
    have hh11 := q11.trans hh9
    have c12 : Steps p.tables e below (s₁.setTop (entryFrame m #[.ref x, .ref y] 3)) (T11.setTop (mkF m 33 #[.val (.ref x), .val (.ref y), .val (.ref y)] [.int cd', .int cd])) := c10.trans (st11 _ (Steps.refl _))
    by_cases hcd : cd = cd'
    · subst hcd
      have c13 : Steps p.tables e below (s₁.setTop (entryFrame m #[.ref x, .ref y] 3)) (T11.setTop (mkF m 37 #[.val (.ref x), .val (.ref y), .val (.ref y)] [.ref x])) := c12.trans (by
        refine XS.icmpNo X11.here hexec rfl (hb hbytes d33) rfl (ii_ne_f rfl) ?_
        refine XS.aloadN X11.here hexec rfl (hb hbytes d36) rfl rfl ?_
        exact Steps.refl _)
      obtain ⟨T14, X14, q14, st14⟩ := X11.hget hexec hown (wk W (.fieldLink "java/lang/String" 9 "java/lang/String" "value" "[B")) (hx.mv X11.warmed.alike hh11).2.1 (g := (mkF m 37 #[.val (.ref x), .val (.ref y), .val (.ref y)] [.ref x])) rfl (rest := []) rfl (hb hbytes d37)
      have hh14 := q14.trans hh11
      have c15 : Steps p.tables e below (s₁.setTop (entryFrame m #[.ref x, .ref y] 3)) (T14.setTop (mkF m 41 #[.val (.ref x), .val (.ref y), .val (.ref y)] [.ref y, .ref t])) := (c13.trans (st14 _ (Steps.refl _))).trans (by
        refine XS.aloadN X14.here hexec rfl (hb hbytes d40) rfl rfl ?_
        exact Steps.refl _)
      obtain ⟨T16, X16, q16, st16⟩ := X14.hget hexec hown (wk W (.fieldLink "java/lang/String" 9 "java/lang/String" "value" "[B")) (hy.mv X14.warmed.alike hh14).2.1 (g := (mkF m 41 #[.val (.ref x), .val (.ref y), .val (.ref y)] [.ref y, .ref t])) rfl (rest := [.ref t]) rfl (hb hbytes d41)
      have hh16 := q16.trans hh14
      have c17 : Steps p.tables e below (s₁.setTop (entryFrame m #[.ref x, .ref y] 3)) (T16.setTop (mkF m 44 #[.val (.ref x), .val (.ref y), .val (.ref y)] [.ref t', .ref t])) := c15.trans (st16 _ (Steps.refl _))
      obtain ⟨v18, T18, X18, E18, g18⟩ := X16.callS hexec (LEq.law l t V t' V') hown (wks W (staticW "java/lang/String" 541 LEq.yN)) (wk W LEq.tab) (W := 0) (Nat.le_of_ble_eq_true rfl) (Nat.le_of_ble_eq_true rfl) (Nat.le_refl _) (Nat.le_refl _) (g := (mkF m 44 #[.val (.ref x), .val (.ref y), .val (.ref y)] [.ref t', .ref t])) rfl (by rw [hml]; rfl) c17 (argsL := [.ref t, .ref t']) (rest := []) rfl rfl (by show 2 * 0 + 0 ≤ _; decide) (hb hbytes d44) (⟨rfl, hx.2.2.2.1.mv X16.warmed.alike hh16, hx.2.2.2.2.1.ty, hy.2.2.2.1.mv X16.warmed.alike hh16, hy.2.2.2.2.1.ty⟩)
      obtain ⟨v, rfl, q18, hv⟩ := E18
      have iff := Cod.eqv hx.2.2.2.2.1 hy.2.2.2.2.1 hx.2.2.2.2.2 hy.2.2.2.2.2
      rcases hv with ⟨rfl, he⟩ | ⟨rfl, he⟩
      · have c19 : Steps p.tables e below (s₁.setTop (entryFrame m #[.ref x, .ref y] 3)) (T18.setTop (mkF m 55 #[.val (.ref x), .val (.ref y), .val (.ref y)] [.int 1])) := Steps.trans g18 (by
          refine XS.ifNo X18.here hexec rfl (hb hbytes d47) rfl (i0_eq_f (by decide)) ?_
          refine iconstV X18.here hexec rfl 1 (hb hbytes d50) (by decide) ?_
          refine XS.goto X18.here hexec rfl (pc0 := 51) rfl (hb hbytes d51) (by decide) rfl ?_
          exact Steps.refl _)
        exact ⟨T18, some (.int 1), _, _, _, X18, rfl, rfl, rfl, (fun h => by cases h), ⟨1, rfl, q18.trans hh16, Or.inl ⟨rfl, iff.mp he⟩⟩, fun fs hl => c19.trans (X18.ireturnOut hexec hret rfl (Or.inr (Or.inl rfl)) (hb hbytes d55) hl)⟩
      · have c19 : Steps p.tables e below (s₁.setTop (entryFrame m #[.ref x, .ref y] 3)) (T18.setTop (mkF m 55 #[.val (.ref x), .val (.ref y), .val (.ref y)] [.int 0])) := Steps.trans g18 (by
          refine XS.ifYes X18.here hexec rfl (pc0 := 47) rfl (hb hbytes d47) rfl (i0_eq_t rfl) (by decide) rfl ?_
          refine iconstV X18.here hexec rfl 0 (hb hbytes d54) (by decide) ?_
          exact Steps.refl _)
        exact ⟨T18, some (.int 0), _, _, _, X18, rfl, rfl, rfl, (fun h => by cases h), ⟨0, rfl, q18.trans hh16, Or.inr ⟨rfl, fun q => he (iff.mpr q)⟩⟩, fun fs hl => c19.trans (X18.ireturnOut hexec hret rfl (Or.inr (Or.inl rfl)) (hb hbytes d55) hl)⟩
    · have c13 : Steps p.tables e below (s₁.setTop (entryFrame m #[.ref x, .ref y] 3)) (T11.setTop (mkF m 55 #[.val (.ref x), .val (.ref y), .val (.ref y)] [.int 0])) := c12.trans (by
        refine XS.icmpYes X11.here hexec rfl (pc0 := 33) rfl (hb hbytes d33) rfl (ii_ne_t hcd) (by decide) rfl ?_
        refine iconstV X11.here hexec rfl 0 (hb hbytes d54) (by decide) ?_
        exact Steps.refl _)
      exact ⟨T11, some (.int 0), _, _, _, X11, rfl, rfl, rfl, (fun h => by cases h), ⟨0, rfl, hh11, Or.inr ⟨rfl, Cod.dif hx.2.2.2.2.1 hy.2.2.2.2.1 hcd⟩⟩, fun fs hl => c13.trans (X11.ireturnOut hexec hret rfl (Or.inr (Or.inl rfl)) (hb hbytes d55) hl)⟩
theorem pays {l : Launch} {R : Room} {p : Program} {e : Env} {below : List Frame} {s : State} {sargs : Array Value} {len W : Nat} (x t : Addr) (V : Cell) (cd : Int32) (n : Nat) (f : Nat → Int32) (y t' : Addr) (V' : Cell) (cd' : Int32) (k : Nat) (g : Nat → Int32) (z : Int32) (htab : tab.before sargs s = true) (hfr : 2 ≤ R.frames) (hlo : W + 28 ≤ R.locals) :
    Back l R p e below s sargs yN len W (fun A₁ a₁ => A₁.cells + 0 ≤ R.cells ∧ A₁.slots + 0 ≤ R.slots ∧ P x t V cd n f y t' V' cd' k g z a₁ A₁.U) (fun A₁ _ v₁ B₁ => Says01 (SameT n f k g) v₁ A₁.U B₁.U ∧ B₁.locs = A₁.locs ++ [] ∧ B₁.cells = A₁.cells + 0 ∧ B₁.slots = A₁.slots + 0) :=
  (law l x t V cd n f y t' V' cd' k g z).pays htab hfr (by omega)
end SEq
end StrChars
namespace StrChars.Road
open Jvm Sem ClassFile Op Lib Jvm.Stand Jvm.Free Jvm.Free.XT
open Jvm.Lib.Cold (StaticIs)
/-- the words of String.equals(Object) -/
abbrev wordsEq : List Jvm.Cond := [.code SEq.yN SEq.yB 3 (some .boolean), .initialized ST, .classLink ST 10 ST, .fieldLink ST 38 ST "COMPACT_STRINGS" "Z", .fieldLink ST 15 ST "coder" "B", .fieldLink ST 9 ST "value" "[B", .methodLink ST 541 LEq.yN, .static LEq.yN, .code LEq.yN LEq.yB 3 (some .boolean), .initialized "java/lang/StringLatin1"]
theorem tabEq_of {a : Array Value} {s : State} (h : ∀ w ∈ wordsEq, w.before a s = true) : SEq.tab.before a s = true := by
  have hl : LEq.tab.before a s = true := unparts (wk h (.code LEq.yN LEq.yB 3 (some .boolean))) (wks h (.initialized LEq.yN.cls :: LEq.site))
  have q := consq hl h
  exact unparts (wk q (.code SEq.yN SEq.yB 3 (some .boolean))) (wks q (.initialized SEq.yN.cls :: SEq.site))
theorem movedEq {Z s : State} {a0 args : Array Value} (hZ : Z.Warmed39 s.vm) (hw : ∀ d ∈ wordsEq, d.before a0 Z = true) : ∀ d ∈ wordsEq, d.before args s = true := fun d hd => by
  have t : ∀ d ∈ wordsEq, (d.onTables && d.keepsFace) = true := by decide +kernel
  exact RoadKit.mv hZ (hw d hd) (t d hd)
/-- the road's facts of a String, as the laws ask it -/
theorem txt_of {Z U : State} {a0 : Array Value} {kI : Nat} (wi : (Jvm.Cond.instantiable ST kI).before a0 Z = true) (al : Z.vm.Alike U.vm) {x t : Addr} {kb : ClassId} {cs : List Int32} {cd N2 : Int32} {vs : List Value} (E : RoadKit.Exa Z U.heap x ST) (V : RoadKit.Fld Z U.heap x ST "value" "[B" (.ref t)) (C : RoadKit.Fld Z U.heap x ST "coder" "B" (.int cd)) (K : RoadKit.Arv Z U.heap t kb .byte N2 vs (.int 0)) (hc : CodA cs cd N2 vs) (hb : ∀ c ∈ cs, ¬ c < 0 ∧ ¬ (65535 : Int32) < c) (l2 : cs.length ≤ 4000) :
    ∃ A, Txt x t A cd cs.length (fun j => cs.getD j 0) U := by
  obtain ⟨A, K1, K2, K3, K4, K5, K6⟩ := K
  have hcod := hc.cod (by omega) K3 K5
  obtain ⟨D, fV, fC, hB, F1, F2, g1, g2, -, -⟩ := strObj wi al E V C
  exact ⟨A, ⟨_, hB.2.2.1, D, hB.1, rfl, by cases q : D.vm <;> first | rfl | exact absurd q (hB.2.1.2 _)⟩, Has.of hB F1 g1, Has.of hB F2 g2, ⟨K1.1, State.isArrayOf_alike al K1.2.1, K1.2.2, by rcases hcod with ⟨-, q, -⟩ | ⟨-, q, -⟩ <;> omega⟩, hcod, fun j hj => by
    have e : cs.getD j 0 = cs[j] := by simp [List.getD_eq_getElem?_getD, hj]
    show ¬ cs.getD j 0 < 0 ∧ ¬ 65535 < cs.getD j 0
    rw [e]; exact hb _ (List.getElem_mem _)⟩
theorem same_list (cs ds : List Int32) : SameT cs.length (fun j => cs.getD j 0) ds.length (fun j => ds.getD j 0) ↔ cs = ds := by
  constructor
  · rintro ⟨e, q⟩
    refine List.ext_getElem e fun j h1 h2 => ?_
    have := q j h1
    simpa [List.getD_eq_getElem?_getD, h1, h2] using this
  · rintro rfl
    exact ⟨rfl, fun _ _ => rfl⟩
/-- **equals(Object) OF TWO SUCH STRINGS**: 1 just where the chars are the same -/
theorem eqW {p : Program} {l : Launch} {e : Env} {R : Room} {s : State} {args : Array Value} {below : List Frame} {len W : Nat} {Z : State} {a0 : Array Value} {h : Heap} (hZ : Z.Warmed39 s.vm) (hw : ∀ d ∈ wordsEq, d.before a0 Z = true) {kI : Nat} (wi : (Jvm.Cond.instantiable ST kI).before a0 Z = true)
    {x t : Addr} {kb : ClassId} {cs : List Int32} {cd N2 : Int32} {vs : List Value} (E : RoadKit.Exa Z h x ST) (V : RoadKit.Fld Z h x ST "value" "[B" (.ref t)) (C : RoadKit.Fld Z h x ST "coder" "B" (.int cd)) (K : RoadKit.Arv Z h t kb .byte N2 vs (.int 0)) (hc : CodA cs cd N2 vs) (hb : ∀ c ∈ cs, ¬ c < 0 ∧ ¬ (65535 : Int32) < c) (l2 : cs.length ≤ 4000)
    {y t' : Addr} {kb' : ClassId} {ds : List Int32} {cd' N2' : Int32} {vs' : List Value} (E' : RoadKit.Exa Z h y ST) (V' : RoadKit.Fld Z h y ST "value" "[B" (.ref t')) (C' : RoadKit.Fld Z h y ST "coder" "B" (.int cd')) (K' : RoadKit.Arv Z h t' kb' .byte N2' vs' (.int 0)) (hc' : CodA ds cd' N2' vs') (hb' : ∀ c ∈ ds, ¬ c < 0 ∧ ¬ (65535 : Int32) < c) (l2' : ds.length ≤ 4000)
    {z : Int32} (S : RoadKit.Sta Z h ST "COMPACT_STRINGS" "Z" (.int z)) (hz : ¬ z = 0) (hfr : 2 ≤ R.frames) (hlo : W + 28 ≤ R.locals) :
    Back l R p e below s args (⟨"java/lang/String", "equals", "(Ljava/lang/Object;)Z"⟩ : MethodName) len W (fun P a => a = #[.ref x, .ref y] ∧ P.U.heap = h ∧ P.cells + 0 ≤ R.cells ∧ P.slots + 0 ≤ R.slots)
      (fun P _ v B => ∃ L, (((v = some (.int 1) ∧ cs = ds) ∨ (v = some (.int 0) ∧ ¬ cs = ds)) ∧ L = [] ∧ B.U.heap = h) ∧ B.locs = P.locs ++ L ∧ B.cells = P.cells + 0 ∧ B.slots = P.slots + 0) := by
  intro m meth c P g ig mk a X hg hsize hdg hW hn hp'
  obtain ⟨rfl, rfl, r1, r2⟩ := hp'
  have al : Z.vm.Alike P.U.vm := hZ.alike.trans X.warmed.alike
  obtain ⟨A, hx⟩ := txt_of wi al E V C K hc hb l2
  obtain ⟨A', hy⟩ := txt_of wi al E' V' C' K' hc' hb' l2'
  obtain ⟨v, B, X', ⟨⟨w, hv, hh, hq⟩, hl, hk, hs⟩, st⟩ := SEq.pays x t A cd cs.length (fun j => cs.getD j 0) y t' A' cd' ds.length (fun j => ds.getD j 0) z (tabEq_of (movedEq hZ hw)) hfr hlo m meth c P g ig mk _ X hg hsize hdg hW hn ⟨r1, r2, rfl, hx, hy, sta_is al S, hz⟩
  refine ⟨v, B, X', ⟨[], ⟨?_, rfl, hh⟩, hl, hk, hs⟩, st⟩
  rcases hq with ⟨rfl, q⟩ | ⟨rfl, q⟩
  · exact Or.inl ⟨hv, (same_list cs ds).mp q⟩
  · exact Or.inr ⟨hv, fun e => q ((same_list cs ds).mpr e)⟩
end StrChars.Road
end Jvm.Pilot.@@N@@
namespace Jvm.Pilot.@@N@@
open Jvm Jvm.ClassFile Sem Op Lib Jvm.Free Jvm.Stand Jvm.LawKit Jvm.RoadKit Bundle Jvm.Pilot.@@N@@.Jvm.D
section OwnPre
def Gl (tb : Tables) (e : Env) (below : List Frame) (P : State → Outcome → Prop) (T : State) (m : MethodId) (pc : Nat) (L : Array Slot) (S : List Value) : Prop := ∃ s₂ o, Steps tb e below (T.setTop (mkF m pc L S)) s₂ ∧ P s₂ o
def Wk (p : Program) (l : Launch) (e : Env) (R : Room) (s : State) (m : MethodId) (args : Array Value) (below : List Frame) (meth : Method) (c : Code) (own : String) (Z : State) (hb : Heap) (ws : List Addr) (I : Heap → Prop) (T : State) (h : Heap) (locs : List Loc) (cells slots : Nat) : Prop :=
  Stand p l e R s m args below meth c T locs cells slots ∧ p.tables.exec = Jvm.exec ∧ T.heap = h ∧ Z.Warmed39 s.vm ∧ s.vm.findClass own = some m.cls ∧ Old Z Z.heap.size h ∧ Fr Z.heap.size locs ∧ Keep hb h ws ∧ I h
variable {p : Program} {l : Launch} {e : Env} {R : Room} {s : State} {m : MethodId} {args : Array Value} {below : List Frame} {meth : Method} {c : Code} {T : State} {locs : List Loc} {cells slots cells' slots' : Nat} {Z : State} {a0 : Array Value} {h hb : Heap} {ws : List Addr} {own : String} {I : Heap → Prop} {P : State → Outcome → Prop} {pc pc' : Nat} {L L' : Array Slot} {S : List Value}
theorem Gl.st {tb : Tables} {T T' : State} {S' : List Value} (k : ∀ target, Steps tb e below (T'.setTop (mkF m pc' L' S')) target → Steps tb e below (T.setTop (mkF m pc L S)) target) (G : Gl tb e below P T' m pc' L' S') : Gl tb e below P T m pc L S := by
  obtain ⟨s2, o, h1, h2⟩ := G
  exact ⟨s2, o, k _ h1, h2⟩
theorem Gl.tr {tb : Tables} {T T' : State} {S' : List Value} (k : Steps tb e below (T.setTop (mkF m pc L S)) (T'.setTop (mkF m pc' L' S'))) (G : Gl tb e below P T' m pc' L' S') : Gl tb e below P T m pc L S := by
  obtain ⟨s2, o, h1, h2⟩ := G
  exact ⟨s2, o, k.trans h1, h2⟩
theorem o_merge {tb : Tables} {α : Type} (C : α → Prop) (q : Nat) (FL : α → Array Slot) (FS : α → List Value) (A : (∀ v, C v → Gl tb e below P T m q (FL v) (FS v)) → Gl tb e below P T m pc L S) (B : ∀ v, C v → Gl tb e below P T m q (FL v) (FS v)) : Gl tb e below P T m pc L S := A B
theorem Wk.ox (W : Wk p l e R s m args below meth c own Z hb ws I T h locs cells slots) : Ext Z.heap h := W.2.2.2.2.2.1.2
theorem Wk.old (W : Wk p l e R s m args below meth c own Z hb ws I T h locs cells slots) : Old Z Z.heap.size h := W.2.2.2.2.2.1
theorem Wk.keep (W : Wk p l e R s m args below meth c own Z hb ws I T h locs cells slots) : Keep hb h ws := W.2.2.2.2.2.2.2.1
theorem Wk.inv (W : Wk p l e R s m args below meth c own Z hb ws I T h locs cells slots) : I h := W.2.2.2.2.2.2.2.2
theorem Wk.zs (W : Wk p l e R s m args below meth c own Z hb ws I T h locs cells slots) : Z.heap.size ≤ h.size := W.ox.1
theorem Wk.al (W : Wk p l e R s m args below meth c own Z hb ws I T h locs cells slots) : Z.vm.Alike s.vm := W.2.2.2.1.alike
theorem own_ne {x b n : Nat} (h1 : x < n) (h2 : n ≤ b) : x ≠ b := Nat.ne_of_lt (Nat.lt_of_lt_of_le h1 h2)
theorem own_ne' {x b n : Nat} (h1 : x < n) (h2 : n ≤ b) : b ≠ x := Ne.symm (own_ne h1 h2)
theorem o_iloadN (W : Wk p l e R s m args below meth c own Z hb ws I T h locs cells slots) {k : Fin 4} {v : Int32} (hd : decode c.code pc = .ok (.iload_n k, 1)) (hl : L[k.val]? = some (.val (.int v))) (hp : pc + 1 = pc') (K : Gl p.tables e below P T m pc' L (.int v :: S)) : Gl p.tables e below P T m pc L S := by
  subst hp; exact Gl.st (fun _ q => XS.iloadN W.1.here W.2.1 rfl hd hl q) K
theorem o_iload (W : Wk p l e R s m args below meth c own Z hb ws I T h locs cells slots) {k : Nat} {v : Int32} (hd : decode c.code pc = .ok (.iload k, 2)) (hl : L[k]? = some (.val (.int v))) (hp : pc + 2 = pc') (K : Gl p.tables e below P T m pc' L (.int v :: S)) : Gl p.tables e below P T m pc L S := by
  subst hp; exact Gl.st (fun _ q => XS.iload W.1.here W.2.1 rfl hd hl q) K
theorem o_istore (W : Wk p l e R s m args below meth c own Z hb ws I T h locs cells slots) {k : Nat} {v : Int32} {L' : Array Slot} (hd : decode c.code pc = .ok (.istore k, 2)) (hl : storeLocals L k (.int v) = some L') (hp : pc + 2 = pc') (K : Gl p.tables e below P T m pc' L' S) : Gl p.tables e below P T m pc L (.int v :: S) := by
  subst hp; exact Gl.st (fun _ q => XS.istore W.1.here W.2.1 rfl hd rfl hl q) K
theorem o_lloadN (W : Wk p l e R s m args below meth c own Z hb ws I T h locs cells slots) {k : Fin 4} {v : Int64} (hd : decode c.code pc = .ok (.lload_n k, 1)) (hl : L[k.val]? = some (.val (.long v))) (hp : pc + 1 = pc') (K : Gl p.tables e below P T m pc' L (.long v :: S)) : Gl p.tables e below P T m pc L S := by
  subst hp; exact Gl.st (fun _ q => XS.lloadN W.1.here W.2.1 rfl hd hl q) K
theorem o_lload (W : Wk p l e R s m args below meth c own Z hb ws I T h locs cells slots) {k : Nat} {v : Int64} (hd : decode c.code pc = .ok (.lload k, 2)) (hl : L[k]? = some (.val (.long v))) (hp : pc + 2 = pc') (K : Gl p.tables e below P T m pc' L (.long v :: S)) : Gl p.tables e below P T m pc L S := by
  subst hp; exact Gl.st (fun _ q => XS.lload W.1.here W.2.1 rfl hd hl q) K
theorem o_aloadN (W : Wk p l e R s m args below meth c own Z hb ws I T h locs cells slots) {k : Fin 4} {v : Value} (hd : decode c.code pc = .ok (.aload_n k, 1)) (hl : L[k.val]? = some (.val v)) (hv : v.isRef = true) (hp : pc + 1 = pc') (K : Gl p.tables e below P T m pc' L (v :: S)) : Gl p.tables e below P T m pc L S := by
  subst hp; exact Gl.st (fun _ q => XS.aloadN W.1.here W.2.1 rfl hd hl hv q) K
theorem o_aload (W : Wk p l e R s m args below meth c own Z hb ws I T h locs cells slots) {k : Nat} {v : Value} (hd : decode c.code pc = .ok (.aload k, 2)) (hl : L[k]? = some (.val v)) (hv : v.isRef = true) (hp : pc + 2 = pc') (K : Gl p.tables e below P T m pc' L (v :: S)) : Gl p.tables e below P T m pc L S := by
  subst hp; exact Gl.st (fun _ q => XS.aload W.1.here W.2.1 rfl hd hl hv q) K
theorem o_astoreN (W : Wk p l e R s m args below meth c own Z hb ws I T h locs cells slots) {k : Fin 4} {v : Value} {L' : Array Slot} (hd : decode c.code pc = .ok (.astore_n k, 1)) (hv : v.isRef = true) (hl : storeLocals L k.val v = some L') (hp : pc + 1 = pc') (K : Gl p.tables e below P T m pc' L' S) : Gl p.tables e below P T m pc L (v :: S) := by
  subst hp; exact Gl.st (fun _ q => XS.astoreN W.1.here W.2.1 rfl hd rfl hv hl q) K
theorem o_astore (W : Wk p l e R s m args below meth c own Z hb ws I T h locs cells slots) {k : Nat} {v : Value} {L' : Array Slot} (hd : decode c.code pc = .ok (.astore k, 2)) (hv : v.isRef = true) (hl : storeLocals L k v = some L') (hp : pc + 2 = pc') (K : Gl p.tables e below P T m pc' L' S) : Gl p.tables e below P T m pc L (v :: S) := by
  subst hp; exact Gl.st (fun _ q => XS.astore W.1.here W.2.1 rfl hd rfl hv hl q) K
theorem o_iconst (W : Wk p l e R s m args below meth c own Z hb ws I T h locs cells slots) {i : Int} {v : Int32} (hd : decode c.code pc = .ok (.iconst i, 1)) (hv : Int32.ofInt i = v) (hp : pc + 1 = pc') (K : Gl p.tables e below P T m pc' L (.int v :: S)) : Gl p.tables e below P T m pc L S := by
  subst hp; exact Gl.st (fun _ q => XT.iconstV W.1.here W.2.1 rfl v hd hv q) K
theorem o_bipush (W : Wk p l e R s m args below meth c own Z hb ws I T h locs cells slots) {i : Int} {v : Int32} (hd : decode c.code pc = .ok (.bipush i, 2)) (hv : (Int8.ofInt i).toInt32 = v) (hp : pc + 2 = pc') (K : Gl p.tables e below P T m pc' L (.int v :: S)) : Gl p.tables e below P T m pc L S := by
  subst hp; exact Gl.st (fun _ q => XT.bipushV W.1.here W.2.1 rfl v hd hv q) K
theorem o_sipush (W : Wk p l e R s m args below meth c own Z hb ws I T h locs cells slots) {i : Int} {v : Int32} (hd : decode c.code pc = .ok (.sipush i, 3)) (hv : (Int16.ofInt i).toInt32 = v) (hp : pc + 3 = pc') (K : Gl p.tables e below P T m pc' L (.int v :: S)) : Gl p.tables e below P T m pc L S := by
  subst hp; exact Gl.st (fun _ q => XT.sipushV W.1.here W.2.1 rfl v hd hv q) K
theorem o_aconstNull (W : Wk p l e R s m args below meth c own Z hb ws I T h locs cells slots)  (hd : decode c.code pc = .ok (.aconst_null, 1)) (hp : pc + 1 = pc') (K : Gl p.tables e below P T m pc' L (.null :: S)) : Gl p.tables e below P T m pc L S := by
  subst hp; exact Gl.st (fun _ q => XS.aconstNull W.1.here W.2.1 rfl hd q) K
theorem o_lsub (W : Wk p l e R s m args below meth c own Z hb ws I T h locs cells slots) {x y v : Int64} (hd : decode c.code pc = .ok (.lsub, 1)) (hv : x - y = v) (hp : pc + 1 = pc') (K : Gl p.tables e below P T m pc' L (.long v :: S)) : Gl p.tables e below P T m pc L (.long y :: .long x :: S) := by
  subst hp; exact Gl.st (fun _ q => XS.lsub W.1.here W.2.1 rfl hd rfl (by rw [hv]; exact q)) K
theorem o_iand (W : Wk p l e R s m args below meth c own Z hb ws I T h locs cells slots) {x y v : Int32} (hd : decode c.code pc = .ok (.iand, 1)) (hv : x &&& y = v) (hp : pc + 1 = pc') (K : Gl p.tables e below P T m pc' L (.int v :: S)) : Gl p.tables e below P T m pc L (.int y :: .int x :: S) := by
  subst hp; exact Gl.st (fun _ q => XS.iand W.1.here W.2.1 rfl hd rfl (by rw [hv]; exact q)) K
theorem o_lxor (W : Wk p l e R s m args below meth c own Z hb ws I T h locs cells slots) {x y v : Int64} (hd : decode c.code pc = .ok (.lxor, 1)) (hv : x ^^^ y = v) (hp : pc + 1 = pc') (K : Gl p.tables e below P T m pc' L (.long v :: S)) : Gl p.tables e below P T m pc L (.long y :: .long x :: S) := by
  subst hp; exact Gl.st (fun _ q => XS.lxor W.1.here W.2.1 rfl hd rfl (by rw [hv]; exact q)) K
theorem o_iushr (W : Wk p l e R s m args below meth c own Z hb ws I T h locs cells slots) {x v : Int32} {y : Int32} (hd : decode c.code pc = .ok (.iushr, 1)) (hv : (x.toUInt32 >>> (y &&& 31).toUInt32).toInt32 = v) (hp : pc + 1 = pc') (K : Gl p.tables e below P T m pc' L (.int v :: S)) : Gl p.tables e below P T m pc L (.int y :: .int x :: S) := by
  subst hp; exact Gl.st (fun _ q => XS.iushr W.1.here W.2.1 rfl hd rfl (by rw [hv]; exact q)) K
theorem o_i2b (W : Wk p l e R s m args below meth c own Z hb ws I T h locs cells slots) {x : Int32} {v : Int32} (hd : decode c.code pc = .ok (.i2b, 1)) (hv : x.toInt8.toInt32 = v) (hp : pc + 1 = pc') (K : Gl p.tables e below P T m pc' L (.int v :: S)) : Gl p.tables e below P T m pc L (.int x :: S) := by
  subst hp; exact Gl.st (fun _ q => XS.i2b W.1.here W.2.1 rfl hd rfl (by rw [hv]; exact q)) K
theorem o_i2c (W : Wk p l e R s m args below meth c own Z hb ws I T h locs cells slots) {x : Int32} {v : Int32} (hd : decode c.code pc = .ok (.i2c, 1)) (hv : x.toUInt32.toUInt16.toUInt32.toInt32 = v) (hp : pc + 1 = pc') (K : Gl p.tables e below P T m pc' L (.int v :: S)) : Gl p.tables e below P T m pc L (.int x :: S) := by
  subst hp; exact Gl.st (fun _ q => XS.i2c W.1.here W.2.1 rfl hd rfl (by rw [hv]; exact q)) K
theorem o_irem (W : Wk p l e R s m args below meth c own Z hb ws I T h locs cells slots) {x y v : Int32} (hd : decode c.code pc = .ok (.irem, 1)) (hy : y ≠ 0) (hv : x % y = v) (hp : pc + 1 = pc') (K : Gl p.tables e below P T m pc' L (.int v :: S)) : Gl p.tables e below P T m pc L (.int y :: .int x :: S) := by
  subst hp; exact Gl.st (fun _ q => iremM W.1 W.2.1 rfl hd rfl hy (by rw [hv]; exact q)) K
theorem o_dup (W : Wk p l e R s m args below meth c own Z hb ws I T h locs cells slots) {x : Value} (hd : decode c.code pc = .ok (.dup, 1)) (hc : x.category = 1) (hp : pc + 1 = pc') (K : Gl p.tables e below P T m pc' L (x :: x :: S)) : Gl p.tables e below P T m pc L (x :: S) := by
  subst hp; exact Gl.st (fun _ q => XS.dup W.1.here W.2.1 rfl hd rfl hc q) K
theorem o_goto (W : Wk p l e R s m args below meth c own Z hb ws I T h locs cells slots) {o : Int} (hd : decode c.code pc = .ok (.goto o, 3)) (ho : 0 ≤ (pc : Int) + o) (hp : ((pc : Int) + o).toNat = pc') (K : Gl p.tables e below P T m pc' L S) : Gl p.tables e below P T m pc L S := by
  exact Gl.st (fun _ q => XS.goto W.1.here W.2.1 rfl (pc0 := pc) rfl hd ho hp q) K
theorem o_ifY (W : Wk p l e R s m args below meth c own Z hb ws I T h locs cells slots) {o : Int} {cd : ClassFile.Cond} {x : Int32} (hd : decode c.code pc = .ok (.ifCond cd o, 3)) (hc : ifCond.holds cd x = true) (ho : 0 ≤ (pc : Int) + o) (hp : ((pc : Int) + o).toNat = pc') (K : Gl p.tables e below P T m pc' L S) : Gl p.tables e below P T m pc L (.int x :: S) := by
  exact Gl.st (fun _ q => XS.ifYes W.1.here W.2.1 rfl (pc0 := pc) rfl hd rfl hc ho hp q) K
theorem o_ifN (W : Wk p l e R s m args below meth c own Z hb ws I T h locs cells slots) {o : Int} {cd : ClassFile.Cond} {x : Int32} (hd : decode c.code pc = .ok (.ifCond cd o, 3)) (hc : ifCond.holds cd x = false) (hp : pc + 3 = pc') (K : Gl p.tables e below P T m pc' L S) : Gl p.tables e below P T m pc L (.int x :: S) := by
  subst hp; exact Gl.st (fun _ q => XS.ifNo W.1.here W.2.1 rfl hd rfl hc q) K
theorem o_icmpY (W : Wk p l e R s m args below meth c own Z hb ws I T h locs cells slots) {o : Int} {cd : ClassFile.Cond} {x y : Int32} (hd : decode c.code pc = .ok (.if_icmp cd o, 3)) (hc : if_icmp.holds cd x y = true) (ho : 0 ≤ (pc : Int) + o) (hp : ((pc : Int) + o).toNat = pc') (K : Gl p.tables e below P T m pc' L S) : Gl p.tables e below P T m pc L (.int y :: .int x :: S) := by
  exact Gl.st (fun _ q => XS.icmpYes W.1.here W.2.1 rfl (pc0 := pc) rfl hd rfl hc ho hp q) K
theorem o_icmpN (W : Wk p l e R s m args below meth c own Z hb ws I T h locs cells slots) {o : Int} {cd : ClassFile.Cond} {x y : Int32} (hd : decode c.code pc = .ok (.if_icmp cd o, 3)) (hc : if_icmp.holds cd x y = false) (hp : pc + 3 = pc') (K : Gl p.tables e below P T m pc' L S) : Gl p.tables e below P T m pc L (.int y :: .int x :: S) := by
  subst hp; exact Gl.st (fun _ q => XS.icmpNo W.1.here W.2.1 rfl hd rfl hc q) K
theorem o_getF (W : Wk p l e R s m args below meth c own Z hb ws I T h locs cells slots) {R0 O n d : String} {index : Nat} (w : (Cond.fieldLink own index R0 n d).before a0 Z = true) (via : Via Z R0 O n d) {a : Addr} {v : Value} (F : Fld Z h a O n d v) (hd : decode c.code pc = .ok (.getfield index, 3)) (hp : pc + 3 = pc')
    (K : ∀ T', Wk p l e R s m args below meth c own Z hb ws I T' h locs cells slots → Gl p.tables e below P T' m pc' L (v :: S)) : Gl p.tables e below P T m pc L (.ref a :: S) := by
  subst hp
  obtain ⟨X, hx, eT, hZ, ho, r⟩ := W
  obtain ⟨T', X', e', st⟩ := getF X hx hZ ho (host := "") (Or.inl w) via eT F (g := mkF m pc L (.ref a :: S)) rfl rfl hd
  exact Gl.st st (K T' ⟨X', hx, e', hZ, ho, r⟩)
theorem o_getS (W : Wk p l e R s m args below meth c own Z hb ws I T h locs cells slots) {R0 O n d : String} {index : Nat} (w : (Cond.fieldLink own index R0 n d).before a0 Z = true) (via : Via Z R0 O n d) {v : Value} (F : Sta Z h O n d v) (hd : decode c.code pc = .ok (.getstatic index, 3)) (hp : pc + 3 = pc')
    (K : ∀ T', Wk p l e R s m args below meth c own Z hb ws I T' h locs cells slots → Gl p.tables e below P T' m pc' L (v :: S)) : Gl p.tables e below P T m pc L S := by
  subst hp
  obtain ⟨X, hx, eT, hZ, ho, r⟩ := W
  obtain ⟨T', X', e', st⟩ := getS (host := "") X hx hZ ho w via eT F (g := mkF m pc L S) rfl hd
  exact Gl.st st (K T' ⟨X', hx, e', hZ, ho, r⟩)
theorem o_putF (W : Wk p l e R s m args below meth c own Z hb ws I T h locs cells slots) {R0 O n d C : String} {index kk : Nat} {ty : FieldType} (w : (Cond.fieldLink own index R0 n d).before a0 Z = true) (via : Via Z R0 O n d) {a : Addr} {v v' old : Value} (F : Fld Z h a O n d old) (E : Exa Z h a C)
    (Lz : (Cond.lays C O n d).before a0 Z = true ∨ ((Cond.laysFinal C O n d).before a0 Z = true ∧ own = O ∧ meth.name = "<init>")) (wi : (Cond.instantiable C kk).before a0 Z = true) (hty : parseFieldDescriptor d = some ty) (hn : narrow ty v = v') (hf : fits ty v' = true)
    (g1 : Z.heap.size ≤ a) (g2 : a ∈ ws ∨ hb.size ≤ a) (hI : ∀ h', Wr h h' a (Jvm.RoadKit.slotOf Z O n d) v' → I h') (hd : decode c.code pc = .ok (.putfield index, 3)) (hp : pc + 3 = pc')
    (K : ∀ T' h' locs', Wk p l e R s m args below meth c own Z hb ws I T' h' locs' cells slots → Wr h h' a (Jvm.RoadKit.slotOf Z O n d) v' → Gl p.tables e below P T' m pc' L S) : Gl p.tables e below P T m pc L (v :: .ref a :: S) := by
  subst hp
  obtain ⟨X, hx, eT, hZ, ho, o, fr, kp, i⟩ := W
  obtain ⟨T', h', X', e', Wr', st⟩ := putFN X hx hZ ho w via eT F E Lz wi hty hn hf (g := mkF m pc L (v :: .ref a :: S)) rfl rfl hd
  exact Gl.st st (K T' h' _ ⟨X', hx, e', hZ, ho, o.wr Wr' g1, Fr.snoc X' fr g1, kp.wr Wr' g2, hI _ Wr'⟩ Wr')
theorem o_new (W : Wk p l e R s m args below meth c own Z hb ws I T h locs cells slots) {C : String} {index n : Nat} (w : (Cond.classLink own index C).before a0 Z = true) (wi : (Cond.instantiable C n).before a0 Z = true) (wz : (Cond.initialized C).before a0 Z = true) (hI : ∀ h', Ext h h' → I h')
    (hd : decode c.code pc = .ok (.new index, 3)) (hp : pc + 3 = pc') (hc' : cells + 1 = cells') (hs' : slots + n = slots') (hc : cells' ≤ R.cells) (hs : slots' ≤ R.slots)
    (K : ∀ b T' h', Wk p l e R s m args below meth c own Z hb ws I T' h' locs cells' slots' → Ext h h' → h.size ≤ b → Z.heap.size ≤ b → hb.size ≤ b → Exa Z h' b C → (∀ {O nm d : String} {ty : FieldType}, Laid Z a0 C O nm d → parseFieldDescriptor d = some ty → Fld Z h' b O nm d (defaultValue ty)) → Gl p.tables e below P T' m pc' L (.ref b :: S)) : Gl p.tables e below P T m pc L S := by
  subst hp hc' hs'
  obtain ⟨X, hx, eT, hZ, ho, o, fr, kp, i⟩ := W
  obtain ⟨T', h', X', e', E, A, D, -, st⟩ := newO X hx hZ ho w wi wz eT (g := mkF m pc L S) rfl hd hc hs
  exact Gl.st st (K _ T' h' ⟨X', hx, e', hZ, ho, o.ext E, fr, kp.ext E, hI _ E⟩ E (Nat.le_refl _) o.2.1 kp.1 A D)
theorem o_newP (W : Wk p l e R s m args below meth c own Z hb ws I T h locs cells slots) {aty : ArrayType} (w : (Cond.arrayClass (newarray.typeOf aty)).before a0 Z = true) (hI : ∀ h', Ext h h' → I h') {n : Int32} (hn : ¬ n < 0) {cap : Nat} (hcap : n.toNatClampNeg ≤ cap) (hb8 : cap * 8 ≤ 536870912)
    (hd : decode c.code pc = .ok (.newarray aty, 2)) (hp : pc + 2 = pc') (hc' : cells + 1 = cells') (hs' : slots + cap = slots') (hc : cells' ≤ R.cells) (hs : slots' ≤ R.slots) {vs : List Value} {dv : Value} (hdv : defaultValue (newarray.typeOf aty) = dv) (hv : vs = List.replicate vs.length dv)
    (K : ∀ b T' h' k, Wk p l e R s m args below meth c own Z hb ws I T' h' locs cells' slots' → Ext h h' → h.size ≤ b → Z.heap.size ≤ b → hb.size ≤ b → Arv Z h' b k (newarray.typeOf aty) n vs dv → Gl p.tables e below P T' m pc' L (.ref b :: S)) : Gl p.tables e below P T m pc L (.int n :: S) := by
  subst hp hc' hs' hdv
  obtain ⟨X, hx, eT, hZ, ho, o, fr, kp, i⟩ := W
  obtain ⟨T', h', k, X', e', E, A, st⟩ := newP X hx hZ w eT (g := mkF m pc L (.int n :: S)) rfl hd rfl hn hcap hb8 hc hs
  exact Gl.st st (K _ T' h' k ⟨X', hx, e', hZ, ho, o.ext E, fr, kp.ext E, hI _ E⟩ E (Nat.le_refl _) o.2.1 kp.1 ((Arv.new A hn).pad (by rw [hv]; exact pad_rep [] _ _)))
theorem o_len (W : Wk p l e R s m args below meth c own Z hb ws I T h locs cells slots) {a : Addr} {k : ClassId} {ty : FieldType} {z : Int32} {vs : List Value} {dv : Value} (V : Arv Z h a k ty z vs dv) (hd : decode c.code pc = .ok (.arraylength, 1)) (hp : pc + 1 = pc')
    (K : Gl p.tables e below P T m pc' L (.int z :: S)) : Gl p.tables e below P T m pc L (.ref a :: S) := by
  subst hp
  obtain ⟨X, hx, eT, hZ, ho, r⟩ := W
  obtain ⟨cl, A, -, Sz, N, -⟩ := V
  refine Gl.st (X.arraylength hx (by rw [eT]; exact A.1) (State.isArrayOf_alike hZ.alike A.2.1) (g := mkF m pc L (.ref a :: S)) rfl rfl hd) ?_
  rw [len_of Sz N]; exact K
theorem own_inb {z j : Int32} {c : Cell} {i : Nat} (Sz : c.slots.size = z.toNatClampNeg) (hj : j.toNatClampNeg = i) (hj0 : ¬ j < 0) (hi : i < z.toNatClampNeg) : ¬ (j < 0 ∨ c.slots.size ≤ j.toNatClampNeg) := by
  rintro (q | q)
  · exact hj0 q
  · rw [Sz, hj] at q; omega
theorem o_stC (W : Wk p l e R s m args below meth c own Z hb ws I T h locs cells slots) {a : Addr} {k : ClassId} {z : Int32} {vs vs' : List Value} {dv : Value} (V : Arv Z h a k .char z vs dv) {j x x' : Int32} {i : Nat} (hj : j.toNatClampNeg = i) (hj0 : ¬ j < 0) (hi : i < z.toNatClampNeg) (hi' : i < vs.length) (hx' : nar .char x = x') (hv : vs.set i (.int x') = vs')
    (g1 : Z.heap.size ≤ a) (g2 : a ∈ ws ∨ hb.size ≤ a) (hI : ∀ h', Wr h h' a i (.int x') → I h') (hd : decode c.code pc = .ok (.castore, 1)) (hp : pc + 1 = pc')
    (K : ∀ T' h' locs', Wk p l e R s m args below meth c own Z hb ws I T' h' locs' cells slots → Wr h h' a i (.int x') → Arv Z h' a k .char z vs' dv → Gl p.tables e below P T' m pc' L S) : Gl p.tables e below P T m pc L (.int x :: .int j :: .ref a :: S) := by
  subst hp hx' hv
  obtain ⟨X, hx, eT, hZ, ho, o, fr, kp, i'⟩ := W
  obtain ⟨cl, A, q, Sz, N, H, G⟩ := V
  obtain ⟨T', h', X', e', Wr', st⟩ := stC X hx hZ eT A (own_inb Sz hj hj0 hi) (g := mkF m pc L (.int x :: .int j :: .ref a :: S)) rfl rfl hd
  have V' := Arv.set A q Sz N H G (fits_nar_char x) Wr' i hj hi'
  subst hj
  exact Gl.st st (K T' h' _ ⟨X', hx, e', hZ, ho, o.wr Wr' g1, Fr.snoc X' fr g1, kp.wr Wr' g2, hI _ Wr'⟩ Wr' V')
theorem o_stB (W : Wk p l e R s m args below meth c own Z hb ws I T h locs cells slots) {a : Addr} {k : ClassId} {z : Int32} {vs vs' : List Value} {dv : Value} (V : Arv Z h a k .byte z vs dv) {j x x' : Int32} {i : Nat} (hj : j.toNatClampNeg = i) (hj0 : ¬ j < 0) (hi : i < z.toNatClampNeg) (hi' : i < vs.length) (hx' : nar .byte x = x') (hv : vs.set i (.int x') = vs')
    (g1 : Z.heap.size ≤ a) (g2 : a ∈ ws ∨ hb.size ≤ a) (hI : ∀ h', Wr h h' a i (.int x') → I h') (hd : decode c.code pc = .ok (.bastore, 1)) (hp : pc + 1 = pc')
    (K : ∀ T' h' locs', Wk p l e R s m args below meth c own Z hb ws I T' h' locs' cells slots → Wr h h' a i (.int x') → Arv Z h' a k .byte z vs' dv → Gl p.tables e below P T' m pc' L S) : Gl p.tables e below P T m pc L (.int x :: .int j :: .ref a :: S) := by
  subst hp hx' hv
  obtain ⟨X, hx, eT, hZ, ho, o, fr, kp, i'⟩ := W
  obtain ⟨cl, A, q, Sz, N, H, G⟩ := V
  obtain ⟨T', h', X', e', Wr', st⟩ := stB X hx hZ eT A (own_inb Sz hj hj0 hi) (g := mkF m pc L (.int x :: .int j :: .ref a :: S)) rfl rfl hd
  have V' := Arv.set A q Sz N H G (fits_nar_byte x) Wr' i hj hi'
  subst hj
  exact Gl.st st (K T' h' _ ⟨X', hx, e', hZ, ho, o.wr Wr' g1, Fr.snoc X' fr g1, kp.wr Wr' g2, hI _ Wr'⟩ Wr' V')
theorem o_initO (W : Wk p l e R s m args below meth c own Z hb ws I T h locs cells slots) {idx : Nat} (w1 : (Cond.methodLink own idx Lib.objectInit).before a0 Z = true) (w2 : (Cond.instanceMethod Lib.objectInit).before a0 Z = true) (w3 : (Cond.code Lib.objectInit ⟨#[0xb1]⟩ 1 none).before a0 Z = true) {a : Addr} (hml : L.size = c.maxLocals)
    (hd : decode c.code pc = .ok (.invokespecial idx, 3)) (hp : pc + 3 = pc') (hf : 1 ≤ R.frames) (Wd : Nat) (hW : 2 * 0 + (S.map fun v => v.category).sum ≤ Wd) (hl : Wd + 12 ≤ R.locals)
    (K : ∀ T', Wk p l e R s m args below meth c own Z hb ws I T' h locs cells slots → Gl p.tables e below P T' m pc' L S) : Gl p.tables e below P T m pc L (.ref a :: S) := by
  subst hp
  obtain ⟨X, hx, eT, hZ, ho, r⟩ := W
  obtain ⟨T', X', e', st⟩ := initO X hx hZ ho w1 w2 w3 eT (g := mkF m pc L (.ref a :: S)) rfl hml rfl hd hf hW hl
  exact Gl.st st (K T' ⟨X', hx, e', hZ, ho, r⟩)
abbrev BackQ (l : Launch) (R : Room) (p : Program) (e : Env) (below : List Frame) (s : State) (args : Array Value) (y : MethodName) (len Wd : Nat) (as' : Array Value) (h : Heap) (kc ks : Nat) (Q : Option Value → Heap → List Loc → Prop) : Prop :=
  Back l R p e below s args y len Wd (fun A a => a = as' ∧ A.U.heap = h ∧ A.cells + kc ≤ R.cells ∧ A.slots + ks ≤ R.slots) (fun A _ v B => ∃ L, Q v B.U.heap L ∧ B.locs = A.locs ++ L ∧ B.cells = A.cells + kc ∧ B.slots = A.slots + ks)
theorem o_after (W : Wk p l e R s m args below meth c own Z hb ws I T h locs cells slots) {B : Pt} {v : Option Value} {kc ks : Nat} {Q : Option Value → Heap → List Loc → Prop} {wy : List Addr} (X' : Stand p l e R s m args below meth c B.U B.locs B.cells B.slots) (hpost : ∃ L, Q v B.U.heap L ∧ B.locs = locs ++ L ∧ B.cells = cells + kc ∧ B.slots = slots + ks)
    (hq : ∀ v hh L, Q v hh L → Fr Z.heap.size L ∧ Keep h hh wy) (hg : ∀ x ∈ wy, Z.heap.size ≤ x ∧ (x ∈ ws ∨ hb.size ≤ x)) (hI : ∀ h', Keep h h' wy → I h') :
    ∃ L, Q v B.U.heap L ∧ Keep h B.U.heap wy ∧ Wk p l e R s m args below meth c own Z hb ws I B.U B.U.heap (locs ++ L) (cells + kc) (slots + ks) := by
  obtain ⟨X, hx, eT, hZ, ho, o, fr, kp, i⟩ := W
  obtain ⟨⟨U, lo, kc', ks'⟩, rfl⟩ : ∃ B', B' = B := ⟨_, rfl⟩
  obtain ⟨L', q, e1, e2, e3⟩ := hpost
  have e1 : lo = locs ++ L' := e1
  have e2 : kc' = cells + kc := e2
  have e3 : ks' = slots + ks := e3
  subst e1 e2 e3
  obtain ⟨f, k⟩ := hq _ _ _ q
  exact ⟨L', q, k, X', hx, rfl, hZ, ho, o.keep k (fun x hx => (hg x hx).1), fr.app f, kp.trans k (fun x hx => (hg x hx).2), hI _ k⟩
theorem o_static (W : Wk p l e R s m args below meth c own Z hb ws I T h locs cells slots) {index : Nat} {y : MethodName} {bytes : ByteArray} {maxL : Nat} {ret : Option FieldType} (w1 : (Cond.methodLink own index y).before a0 Z = true) (w2 : (Cond.static y).before a0 Z = true) (w3 : (Cond.initialized y.cls).before a0 Z = true) (w4 : (Cond.code y bytes maxL ret).before a0 Z = true)
    (hy : y.cls ≠ "java/lang/invoke/MethodHandle" ∧ y.cls ≠ "java/lang/invoke/VarHandle") {Wd kc ks : Nat} {Q : Option Value → Heap → List Loc → Prop} {argsL : List Value} (B : BackQ l R p e below s args y 3 Wd argsL.toArray h kc ks Q) (hml : L.size = c.maxLocals)
    (hlen : ∀ sig, parseMethodDescriptor y.desc = some sig → argsL.length = sig.parameters.length) {S0 : List Value} (hS : S0 = argsL.reverse ++ S) (hW : 2 * 0 + (S.map fun v => v.category).sum ≤ Wd) (hd : decode c.code pc = .ok (.invokestatic index, 3)) (hp : pc + 3 = pc')
    (hc' : cells + kc = cells') (hs' : slots + ks = slots') (hc : cells' ≤ R.cells) (hs : slots' ≤ R.slots) {wy : List Addr} (hq : ∀ v hh L, Q v hh L → Fr Z.heap.size L ∧ Keep h hh wy) (hg : ∀ x ∈ wy, Z.heap.size ≤ x ∧ (x ∈ ws ∨ hb.size ≤ x)) (hI : ∀ h', Keep h h' wy → I h')
    (K : ∀ v T' h' Lc, Wk p l e R s m args below meth c own Z hb ws I T' h' (locs ++ Lc) cells' slots' → Keep h h' wy → Q v h' Lc → Gl p.tables e below P T' m pc' L (v.toList ++ S)) : Gl p.tables e below P T m pc L S0 := by
  subst hp hc' hs' hS
  obtain ⟨v, vm₁, B', -, X', hpost, st⟩ := Jvm.LawKit.callS W.1 W.2.1 W.2.2.2.2.1 (mvT W.2.2.2.1 w1) (mvT W.2.2.2.1 w2) (mvT W.2.2.2.1 w3) (mvT W.2.2.2.1 w4) hy B (g := mkF m pc L (argsL.reverse ++ S)) rfl hml hlen rfl hW hd (fun _ _ => ⟨rfl, W.2.2.1, hc, hs⟩)
  obtain ⟨Lc, q, k, W'⟩ := o_after W X' hpost hq hg hI
  exact Gl.st st (K v _ _ Lc W' k q)
theorem o_special (W : Wk p l e R s m args below meth c own Z hb ws I T h locs cells slots) {index : Nat} {y : MethodName} {bytes : ByteArray} {maxL : Nat} (hy1 : y.name = "<init>") (w1 : (Cond.methodLink own index y).before a0 Z = true) (w2 : (Cond.instanceMethod y).before a0 Z = true) (w4 : (Cond.code y bytes maxL none).before a0 Z = true)
    (hy : y.cls ≠ "java/lang/invoke/MethodHandle" ∧ y.cls ≠ "java/lang/invoke/VarHandle") {Wd kc ks : Nat} {Q : Option Value → Heap → List Loc → Prop} {a : Addr} {argsL : List Value} (B : BackQ l R p e below s args y 3 Wd (.ref a :: argsL).toArray h kc ks Q) (hml : L.size = c.maxLocals)
    (hlen : ∀ sig, parseMethodDescriptor y.desc = some sig → argsL.length = sig.parameters.length) {S0 : List Value} (hS : S0 = argsL.reverse ++ .ref a :: S) (hW : 2 * 0 + (S.map fun v => v.category).sum ≤ Wd) (hd : decode c.code pc = .ok (.invokespecial index, 3)) (hp : pc + 3 = pc')
    (hc' : cells + kc = cells') (hs' : slots + ks = slots') (hc : cells' ≤ R.cells) (hs : slots' ≤ R.slots) {wy : List Addr} (hq : ∀ v hh L, Q v hh L → Fr Z.heap.size L ∧ Keep h hh wy) (hg : ∀ x ∈ wy, Z.heap.size ≤ x ∧ (x ∈ ws ∨ hb.size ≤ x)) (hI : ∀ h', Keep h h' wy → I h')
    (K : ∀ v T' h' Lc, Wk p l e R s m args below meth c own Z hb ws I T' h' (locs ++ Lc) cells' slots' → Keep h h' wy → Q v h' Lc → Gl p.tables e below P T' m pc' L (v.toList ++ S)) : Gl p.tables e below P T m pc L S0 := by
  subst hp hc' hs' hS
  obtain ⟨v, vm₁, B', -, X', hpost, st⟩ := W.1.specialBack W.2.1 hy1 W.2.2.2.2.1 (mvT W.2.2.2.1 w1) (mvT W.2.2.2.1 w2) (mvT W.2.2.2.1 w4) hy B (g := mkF m pc L (argsL.reverse ++ .ref a :: S)) rfl hml (Steps.refl _) hlen rfl hW hd (fun _ _ => ⟨rfl, W.2.2.1, hc, hs⟩)
  obtain ⟨Lc, q, k, W'⟩ := o_after W X' hpost hq hg hI
  exact Gl.tr st (K v _ _ Lc W' k q)
theorem o_virtual (W : Wk p l e R s m args below meth c own Z hb ws I T h locs cells slots) {index : Nat} {C : String} {y z : MethodName} (w1 : (Cond.methodLink own index y).before a0 Z = true) (w2 : (Cond.declares y).before a0 Z = true) (hnf : NotFace s y) (w3 : (Cond.selects C y z).before a0 Z = true) (w4 : (Cond.instanceMethod z).before a0 Z = true)
    (hy : y.cls ≠ "java/lang/invoke/MethodHandle" ∧ y.cls ≠ "java/lang/invoke/VarHandle") {Wd kc ks : Nat} {Q : Option Value → Heap → List Loc → Prop} {a : Addr} (E : Exa Z h a C) {argsL : List Value} (B : BackQ l R p e below s args z 3 Wd (.ref a :: argsL).toArray h kc ks Q) (hml : L.size = c.maxLocals)
    (hlen : ∀ sig, parseMethodDescriptor y.desc = some sig → argsL.length = sig.parameters.length) {S0 : List Value} (hS : S0 = argsL.reverse ++ .ref a :: S) (hW : 2 * 0 + (S.map fun v => v.category).sum ≤ Wd) (hd : decode c.code pc = .ok (.invokevirtual index, 3)) (hp : pc + 3 = pc')
    (hc' : cells + kc = cells') (hs' : slots + ks = slots') (hc : cells' ≤ R.cells) (hs : slots' ≤ R.slots) {wy : List Addr} (hq : ∀ v hh L, Q v hh L → Fr Z.heap.size L ∧ Keep h hh wy) (hg : ∀ x ∈ wy, Z.heap.size ≤ x ∧ (x ∈ ws ∨ hb.size ≤ x)) (hI : ∀ h', Keep h h' wy → I h')
    (K : ∀ v T' h' Lc, Wk p l e R s m args below meth c own Z hb ws I T' h' (locs ++ Lc) cells' slots' → Keep h h' wy → Q v h' Lc → Gl p.tables e below P T' m pc' L (v.toList ++ S)) : Gl p.tables e below P T m pc L S0 := by
  subst hp hc' hs' hS
  obtain ⟨cB, kB, q1, q2, q3⟩ := isOf W.2.2.2.1 W.2.2.1 E
  obtain ⟨v, vm₁, B', -, X', hpost, st⟩ := W.1.virtualBack W.2.1 W.2.2.2.2.1 (mvT W.2.2.2.1 w1) (mvT W.2.2.2.1 w2) hnf (mvT W.2.2.2.1 w3) (mvT W.2.2.2.1 w4) hy B q1 q3 (g := mkF m pc L (argsL.reverse ++ .ref a :: S)) rfl hml (Steps.refl _) hlen rfl hW hd (fun _ _ => ⟨rfl, W.2.2.1, hc, hs⟩)
  obtain ⟨Lc, q, k, W'⟩ := o_after W X' hpost hq hg hI
  exact Gl.tr st (K v _ _ Lc W' k q)
theorem o_nf (W : Wk p l e R s m args below meth c own Z hb ws I T h locs cells slots) {C : String} {y z : MethodName} (hyz : y = z) (w : (Cond.selects C y z).before a0 Z = true) : NotFace s y := by
  subst hyz
  exact notFace_of_selects (args := #[]) (mvT W.2.2.2.1 w)
def CtrN (l : Launch) (Z : State) (y : MethodName) (bytes : ByteArray) (maxL : Nat) (ret : Option FieldType) (xs : List Jvm.Cond) (rm : Room) (as' : Array Value) (h0 : Heap) (wy : List Addr) (Q : Option Value → Heap → Prop) : Prop :=
  MetFree l y (head1 (Jvm.Cond.code y bytes maxL ret :: xs) rm) (fun a U => a = as' ∧ Z.Warmed39 U.vm ∧ U.heap = h0) (fun _ _ _ _ _ => True) (fun _ U o U' => ∃ v L, o = .returned v ∧ (Fr Z.heap.size L ∧ Keep h0 U'.heap wy ∧ Q v U'.heap) ∧ FrameEnd U o U' L rm.cells rm.slots)
def PN (s : State) (Z : State) (below : List Frame) (h0 : Heap) (wy : List Addr) (rm : Room) (Q : Option Value → Heap → Prop) (s₂ : State) (o : Outcome) : Prop := s₂.status = .running ∧ Ended s₂ below o ∧ ∃ v L, o = .returned v ∧ (Fr Z.heap.size L ∧ Keep h0 s₂.heap wy ∧ Q v s₂.heap) ∧ FrameEnd s o s₂ L rm.cells rm.slots
theorem own_entry {as : List Value} {n : Nat} {Ls : List Slot} (h : Jvm.Sym.laidSlots as ++ List.replicate (n - (Jvm.Sym.laidSlots as).length) Slot.unset = Ls) (m : MethodId) : entryFrame m as.toArray n = mkF m 0 Ls.toArray [] := by
  have e : argsToLocals as.toArray n = Ls.toArray := Array.toList_inj.mp ((Jvm.Sym.argsToLocals_toList _ _).trans h)
  exact congrArg (fun L => mkF m 0 L []) e
theorem CtrN.intro {y : MethodName} {bytes : ByteArray} {maxL : Nat} {ret : Option FieldType} {xs : List Jvm.Cond} {rm : Room} {as' : Array Value} {h0 : Heap} {wy : List Addr} {Q : Option Value → Heap → Prop} {L0 : Array Slot} (hx : plainFor y = true) (O : Old Z Z.heap.size h0) (hef : ∀ m, entryFrame m as' maxL = mkF m 0 L0 [])
    (body : ∀ (p : Program) (e : Env) (s : State) (m : MethodId) (below : List Frame) (meth : Method) (c : Code) (T : State), c.code = bytes → c.maxLocals = maxL → meth.sig.returnType = ret → meth.locks = false → meth.name = y.name → Wk p l e rm s m as' below meth c y.cls Z h0 wy (fun _ => True) T h0 [] 0 0 → Gl p.tables e below (PN s Z below h0 wy rm Q) T m 0 L0 []) :
    CtrN l Z y bytes maxL ret xs rm as' h0 wy Q := by
  refine MetFree.of_bodySF hx hisR ?_
  intro p e s m args below meth c s₁ Bd hml hP hK
  obtain ⟨rfl, hZ, hh⟩ := hP
  have e0 : s₁.heap = h0 := by rw [← hh, Bd.state]; rfl
  obtain ⟨s2, o, g1, g2, g3, g4⟩ := body p e s m below meth c s₁ Bd.bytes hml Bd.returns Bd.notSynchronized (name_of_methodNamed Bd.named Bd.method).1 ⟨Stand.of_body Bd, Bd.exec, e0, hZ, findClass_of_methodNamed Bd.named, O, Fr.nil _, Keep.refl _ _, trivial⟩
  exact ⟨s2, o, castTop (hef m) g1, g2, g3, g4⟩
theorem CtrN.back {y : MethodName} {bytes : ByteArray} {maxL : Nat} {ret : Option FieldType} {rm : Room} {as' : Array Value} {wy : List Addr} {Q : Option Value → Heap → Prop} {len Wd : Nat} (W : Wk p l e R s m args below meth c own Z hb ws I T h locs cells slots) (C : CtrN l Z y bytes maxL ret [] rm as' h wy Q) (wc : (Cond.code y bytes maxL ret).before a0 Z = true) (wz : (Cond.initialized y.cls).before a0 Z = true)
    (hf : rm.frames + 1 ≤ R.frames) (hl : Wd + (maxL + 11) + rm.locals ≤ R.locals) : BackQ l R p e below s args y len Wd as' h rm.cells rm.slots (fun v hh L => Fr Z.heap.size L ∧ Keep h hh wy ∧ Q v hh) :=
  backOf (Q := fun v hh L => Fr Z.heap.size L ∧ Keep h hh wy ∧ Q v hh) C W.2.2.2.1 wc wz hf hl
theorem o_leaveN {y0 : List Addr} {Q : Option Value → Heap → Prop} {rm : Room} (W : Wk p l e rm s m args below meth c own Z hb ws I T h locs cells slots) (hlk : meth.locks = false) {v : Option Value} (hv : meth.sig.returnType = none → v = none) (hq : Q v h) (hc : cells ≤ rm.cells) (hs : slots ≤ rm.slots) (st : ∀ fs, (∀ (f : JFrame) (acts : List Action), f.method = m → f.locked = none → f.entered = [] → (doReturn e (T.setTop f) acts v).1 = T.setFrames fs) → Steps p.tables e below (T.setTop (mkF m pc L S)) (T.setFrames fs)) :
    Gl p.tables e below (PN s Z below hb ws rm Q) T m pc L S := by
  obtain ⟨X, hx, eT, hZ, ho, o, fr, kp, i⟩ := W
  obtain ⟨fs, hr, hrun, hended, hW, hsame⟩ := X.leave (v := v) hv
  have eh : (T.setFrames fs).heap = h := eT
  exact ⟨_, _, st fs hr, hrun, hended, v, locs, rfl, ⟨fr, by rw [eh]; exact kp, by rw [eh]; exact hq⟩, ⟨_, rfl⟩, hW, hsame.mono hc hs⟩
theorem o_retN (W : Wk p l e R s m args below meth c own Z hb ws I T h locs cells slots) (hlk : meth.locks = false) {Q : Option Value → Heap → Prop} {z z' : Int32} {t : FieldType} (hret : meth.sig.returnType = some t) (ht : t = .boolean ∨ t = .byte ∨ t = .char ∨ t = .short) (hz : nar t z = z') (hd : decode c.code pc = .ok (.ireturn, 1)) (hc : cells ≤ R.cells) (hs : slots ≤ R.slots) (hq : Q (some (.int z')) h) : Gl p.tables e below (PN s Z below hb ws R Q) T m pc L (.int z :: S) := by
  subst hz
  exact o_leaveN (y0 := []) W hlk (fun q => by rw [hret] at q; cases q) hq hc hs fun fs hr => retN W.1 W.2.1 hret ht hd hr
theorem o_retA (W : Wk p l e R s m args below meth c own Z hb ws I T h locs cells slots) (hlk : meth.locks = false) {Q : Option Value → Heap → Prop} {t : FieldType} {v : Value} (hret : meth.sig.returnType = some t) (ht : t.isReference = true) (hv : v.isRef = true) (hd : decode c.code pc = .ok (.areturn, 1)) (hc : cells ≤ R.cells) (hs : slots ≤ R.slots) (hq : Q (some v) h) : Gl p.tables e below (PN s Z below hb ws R Q) T m pc L (v :: S) :=
  o_leaveN (y0 := []) W hlk (fun q => by rw [hret] at q; cases q) hq hc hs fun fs hr => retOut W.1 W.2.1 hret (by cases v <;> first | (cases hv; done) | (cases t <;> first | (cases ht; done) | rfl)) (Or.inr (Or.inr (Or.inr (Or.inr ⟨rfl, ht, hv⟩)))) hd hr
theorem o_ret0 (W : Wk p l e R s m args below meth c own Z hb ws I T h locs cells slots) (hlk : meth.locks = false) {Q : Option Value → Heap → Prop} (hret : meth.sig.returnType = none) (hd : decode c.code pc = .ok (.return_, 1)) (hc : cells ≤ R.cells) (hs : slots ≤ R.slots) (hq : Q none h) : Gl p.tables e below (PN s Z below hb ws R Q) T m pc L [] :=
  o_leaveN (y0 := []) W hlk (fun _ => rfl) hq hc hs fun fs hr => W.1.returnOut W.2.1 hret hd hr
end OwnPre

section OwnWide
def IW (s : State) (Z : State) (EL : List (String × Nat)) (V : Vm) (h : Heap) : Prop := (∃ k0, s.Since V k0 ∧ k0 ≤ h.size) ∧ CHv Z EL V h ∧ CHr Z EL s.vm s.heap V h
variable {p : Program} {l : Launch} {e : Env} {R : Room} {s : State} {m : MethodId} {args : Array Value} {below : List Frame} {meth : Method} {c : Code} {T : State} {locs : List Loc} {cells slots cells' slots' : Nat} {Z : State} {a0 : Array Value} {h h' hb : Heap} {ws : List Addr} {own : String} {P : State → Outcome → Prop} {pc pc' : Nat} {L L' : Array Slot} {S : List Value} {EL : List (String × Nat)} {V : Vm}
theorem IW.ext (E : Ext h h') (i : IW s Z EL V h) : IW s Z EL V h' := by
  obtain ⟨⟨k0, h1, h2⟩, h3, h4⟩ := i
  exact ⟨⟨k0, h1, Nat.le_trans h2 E.1⟩, h3.ext E, h4.trans (CHr.ext E h3)⟩
theorem IW.wr {a : Addr} {sl : Nat} {v : Value} (W : Wr h h' a sl v) (S : Safe Z EL V h a) (i : IW s Z EL V h) : IW s Z EL V h' := by
  obtain ⟨⟨k0, h1, h2⟩, h3, h4⟩ := i
  exact ⟨⟨k0, h1, by rw [W.size]; exact h2⟩, h3.wr W S, h4.trans (CHr.wr W S h3)⟩
theorem IW.keep {wy : List Addr} (K : Keep h h' wy) (hs : ∀ x ∈ wy, Safe Z EL V h x) (i : IW s Z EL V h) : IW s Z EL V h' := by
  obtain ⟨⟨k0, h1, h2⟩, h3, h4⟩ := i
  exact ⟨⟨k0, h1, Nat.le_trans h2 K.1⟩, h3.keep K hs, h4.trans (CHr.keep K hs h3)⟩
theorem own_safeS {vm : Vm} {x : Addr} (hal : Z.vm.Alike vm) (E : Exa Z h x "java/lang/String") (F : Fld Z h x "java/lang/String" "value" "[B" .null) : Safe Z EL vm h x := fun B => by
  obtain ⟨pp, -, u, a, -, q, -, G, rfl | rfl⟩ := B
  · obtain ⟨cS, ⟨⟨g1, -, -, ⟨c1, k1, i1, f1, -⟩, -, -, -, v1, -⟩, -⟩, -⟩ := G
    obtain ⟨cell, cf, k, i, f, h1, h2, h3, h4, h5, h6, h7⟩ := F
    cases h1.symm.trans g1
    obtain ⟨k3, e3, -⟩ := State.fieldFound?_setVm (s := Z) hal h2
    have e4 := (show (Wst Z vm h).fieldFound? _ _ _ = _ from e3).symm.trans f1
    simp only [Option.some.injEq, Prod.mk.injEq] at e4
    rw [e4.2.2.2] at h7
    rw [h7] at v1
    simp at v1
  · have hA : (Wst Z vm h).isArrayOf q.SA .byte := by
      obtain ⟨cS, ⟨⟨-, -, -, -, -, -, -, -, -, -, g11, -⟩, -⟩, -⟩ := G
      exact g11
    have hc := G.hd
    obtain ⟨cell, k, h1, h2, h3, -, -⟩ := E
    cases h1.symm.trans hc
    obtain ⟨cS, -, -, hB, -⟩ := G
    have hB' : vm.findClass "[B" = some q.SA.cls := hB
    rw [hal.findClass] at hB'
    obtain ⟨ka, a1, a2⟩ := Vm.findClass_spec hB'
    obtain ⟨kb, b1, b2⟩ := Vm.findClass_spec h2
    cases a1.symm.trans b1
    rw [a2] at b2
    exact absurd b2 (by decide)
def ELn (Z : State) (a0 : Array Value) (EL : List (String × Nat)) (n : Nat) : Prop := ∀ p ∈ EL, ∃ text : String, (Cond.stringLink p.1 p.2 text).before a0 Z = true ∧ (∀ c ∈ text.toList, c.toNat < 256) ∧ text.toList.length ≠ n
theorem ELn.nil {n : Nat} : ELn Z a0 [] n := fun _ hp => by cases hp
theorem ELn.cons {n index : Nat} {text : String} (w : (Cond.stringLink own index text).before a0 Z = true) (ht : ∀ c ∈ text.toList, c.toNat < 256) (hn : text.toList.length ≠ n) (E : ELn Z a0 EL n) : ELn Z a0 ((own, index) :: EL) n := fun p hp => by
  rcases List.mem_cons.mp hp with rfl | hp
  · exact ⟨text, w, ht, hn⟩
  · exact E p hp
theorem o_ldcR (W : Wk p l e R (s.setVm V) m args below meth c own Z hb ws (IW s Z EL V) T h locs cells slots) {text : String} {index : Nat} (w : (Cond.stringLink own index text).before a0 Z = true) (wS : ∀ a ∈ Bundle.stringAtoms, a.before a0 Z = true) (hEL : EW Z a0 EL) (hmem : (own, index) ∈ EL) (hd : decode c.code pc = .ok (.ldc index, 2)) (hp : pc + 2 = pc') {n : Nat} (hn : 4 * text.toList.length ≤ n) (hbig : n ≤ 536870912)
    (hc' : cells + 2 = cells') (hs' : slots + (n + 4) = slots') (hc : cells' ≤ R.cells) (hs : slots' ≤ R.slots) {vs : List Value} {z : Int32} (ht : (∀ c ∈ text.toList, c.toNat < 256) ∧ text.toList.map (fun c => Value.int (Jvm.Lit.byteI c.toNat.toUInt16)) = vs) (hz : ¬ z < 0) (hl : z.toNatClampNeg = vs.length)
    (K : ∀ a T' h' V' b k, Wk p l e R (s.setVm V') m args below meth c own Z hb ws (IW s Z EL V') T' h' locs cells' slots' → Ext h h' → CHr Z EL V h V' h' → Exa Z h' a "java/lang/String" → Fld Z h' a "java/lang/String" "coder" "B" (.int 0) → Fld Z h' a "java/lang/String" "value" "[B" (.ref b) → Arv Z h' b k .byte z vs (.int 0) → (∀ x, Safe Z EL V' h' x → x ≠ a ∧ x ≠ b) → Gl p.tables e below P T' m pc' L (.ref a :: S)) : Gl p.tables e below P T m pc L S := by
  subst hp hc' hs'
  obtain ⟨X, hx, eT, hZ, ho, o, fr, kp, ⟨k0, i1, i2⟩, i3, i4⟩ := W
  obtain ⟨a, T', h', k1, b, k, X', e', E, hS, hk, hW, hf, A1, A2, A3, A4, -, -, hC, -, hne, st⟩ := ldcCH X hx hZ ho w wS eT i1 i2 hEL hmem i3 ht hz hl (g := mkF m pc L S) rfl hd hn hbig hc hs
  exact Gl.st st (K a T' h' T'.vm b k ⟨X', hx, e', hW, hf, o.ext E, fr, kp.ext E, ⟨k1, hS, hk⟩, hC.1, i4.trans hC⟩ E hC A1 A2 A3 A4 hne)
def CtrW (l : Launch) (Z : State) (EL : List (String × Nat)) (y : MethodName) (bytes : ByteArray) (maxL : Nat) (ret : Option FieldType) (xs : List Jvm.Cond) (rm : Room) (as' : Array Value) (h0 : Heap) (wy : List Addr) (Q : Option Value → Heap → Prop) : Prop :=
  MetFree l y (head1 (Jvm.Cond.code y bytes maxL ret :: xs) rm) (fun a U => a = as' ∧ Z.Warmed39 U.vm ∧ U.heap = h0 ∧ CHv Z EL U.vm h0) (fun _ _ _ _ _ => True) (fun _ U o U' => ∃ v L, o = .returned v ∧ (Fr Z.heap.size L ∧ Keep h0 U'.heap wy ∧ Q v U'.heap) ∧ CHr Z EL U.vm U.heap U'.vm U'.heap ∧ ReturnedEndW U o U' L rm.cells rm.slots)
def PW (s : State) (Z : State) (EL : List (String × Nat)) (below : List Frame) (h0 : Heap) (wy : List Addr) (rm : Room) (Q : Option Value → Heap → Prop) (s₂ : State) (o : Outcome) : Prop := s₂.status = .running ∧ Ended s₂ below o ∧ ∃ v L, o = .returned v ∧ (Fr Z.heap.size L ∧ Keep h0 s₂.heap wy ∧ Q v s₂.heap) ∧ CHr Z EL s.vm s.heap s₂.vm s₂.heap ∧ ReturnedEndW s o s₂ L rm.cells rm.slots
theorem CtrW.intro {y : MethodName} {bytes : ByteArray} {maxL : Nat} {ret : Option FieldType} {xs : List Jvm.Cond} {rm : Room} {as' : Array Value} {h0 : Heap} {wy : List Addr} {Q : Option Value → Heap → Prop} {L0 : Array Slot} (hx : plainFor y = true) (O : Old Z Z.heap.size h0) (hef : ∀ m, entryFrame m as' maxL = mkF m 0 L0 [])
    (body : ∀ (p : Program) (e : Env) (s : State) (m : MethodId) (below : List Frame) (meth : Method) (c : Code) (T : State) (V : Vm), c.code = bytes → c.maxLocals = maxL → meth.sig.returnType = ret → meth.locks = false → meth.name = y.name → Wk p l e rm (s.setVm V) m as' below meth c y.cls Z h0 wy (IW s Z EL V) T h0 [] 0 0 → Gl p.tables e below (PW s Z EL below h0 wy rm Q) T m 0 L0 []) :
    CtrW l Z EL y bytes maxL ret xs rm as' h0 wy Q := by
  refine MetFree.of_bodySF hx hisR ?_
  intro p e s m args below meth c s₁ Bd hml hP hK
  obtain ⟨rfl, hZ, hh, hH⟩ := hP
  have e0 : s₁.heap = h0 := by rw [← hh, Bd.state]; rfl
  have hr : CHr Z EL s.vm s.heap s.vm h0 := by rw [hh]; exact CHr.refl hH
  have X : Stand p l e rm (s.setVm s.vm) m args below meth c s₁ [] 0 0 := Stand.of_body Bd
  obtain ⟨s2, o, g1, g2, g3, g4⟩ := body p e s m below meth c s₁ s.vm Bd.bytes hml Bd.returns Bd.notSynchronized (name_of_methodNamed Bd.named Bd.method).1 ⟨X, Bd.exec, e0, hZ, findClass_of_methodNamed Bd.named, O, Fr.nil _, Keep.refl _ _, ⟨0, (State.WarmedH.refl s).since _, Nat.zero_le _⟩, hH, hr⟩
  exact ⟨s2, o, castTop (hef m) g1, g2, g3, g4⟩
abbrev BackSQ (l : Launch) (R : Room) (p : Program) (e : Env) (below : List Frame) (s : State) (args : Array Value) (y : MethodName) (len Wd : Nat) (as' : Array Value) (h : Heap) (kc ks : Nat) (Q : Option Value → Heap → List Loc → Prop) (Z : State) (EL : List (String × Nat)) (V : Vm) : Prop :=
  BackS l R p e below s args y len Wd (fun A a => a = as' ∧ A.U.heap = h ∧ A.cells + kc ≤ R.cells ∧ A.slots + ks ≤ R.slots) (fun A _ v B => ∃ L, Q v B.U.heap L ∧ B.locs = A.locs ++ L ∧ B.cells = A.cells + kc ∧ B.slots = A.slots + ks ∧ CHr Z EL V h B.U.vm B.U.heap)
theorem CtrW.back {y : MethodName} {bytes : ByteArray} {maxL : Nat} {ret : Option FieldType} {rm : Room} {as' : Array Value} {wy : List Addr} {Q : Option Value → Heap → Prop} {len Wd : Nat} (W : Wk p l e R (s.setVm V) m args below meth c own Z hb ws (IW s Z EL V) T h locs cells slots) (C : CtrW l Z EL y bytes maxL ret [] rm as' h wy Q) (wc : (Cond.code y bytes maxL ret).before a0 Z = true) (wz : (Cond.initialized y.cls).before a0 Z = true)
    (hf : rm.frames + 1 ≤ R.frames) (hl : Wd + (maxL + 11) + rm.locals ≤ R.locals) (hEL : EW Z a0 EL) : BackSQ l R p e below (s.setVm V) args y len Wd as' h rm.cells rm.slots (fun v hh L => Fr Z.heap.size L ∧ Keep h hh wy ∧ Q v hh) Z EL V :=
  backOfSH (s := s) (Q := fun v hh L => Fr Z.heap.size L ∧ Keep h hh wy ∧ Q v hh) C W.2.2.2.1 wc wz hf hl hEL W.inv.2.1
theorem o_afterW (W : Wk p l e R (s.setVm V) m args below meth c own Z hb ws (IW s Z EL V) T h locs cells slots) {B : Pt} {v : Option Value} {kc ks : Nat} {Q : Option Value → Heap → List Loc → Prop} {wy : List Addr} (X' : Stand p l e R ((s.setVm V).setVm B.U.vm) m args below meth c B.U B.locs B.cells B.slots) (hS : (s.setVm V).Since B.U.vm B.U.heap.size) (hgr : T.heap.size ≤ B.U.heap.size) (hpost : ∃ L, Q v B.U.heap L ∧ B.locs = locs ++ L ∧ B.cells = cells + kc ∧ B.slots = slots + ks ∧ CHr Z EL V h B.U.vm B.U.heap)
    (hq : ∀ v hh L, Q v hh L → Fr Z.heap.size L ∧ Keep h hh wy) (hg : ∀ x ∈ wy, Z.heap.size ≤ x ∧ (x ∈ ws ∨ hb.size ≤ x)) :
    ∃ L, Q v B.U.heap L ∧ Keep h B.U.heap wy ∧ CHr Z EL V h B.U.vm B.U.heap ∧ Wk p l e R (s.setVm B.U.vm) m args below meth c own Z hb ws (IW s Z EL B.U.vm) B.U B.U.heap (locs ++ L) (cells + kc) (slots + ks) := by
  obtain ⟨X, hx, eT, hZ, ho, o, fr, kp, ⟨k0, i1, i2⟩, i3, i4⟩ := W
  obtain ⟨⟨U, lo, kc', ks'⟩, rfl⟩ : ∃ B', B' = B := ⟨_, rfl⟩
  obtain ⟨L', q, e1, e2, e3, hC⟩ := hpost
  have e1 : lo = locs ++ L' := e1
  have e2 : kc' = cells + kc := e2
  have e3 : ks' = slots + ks := e3
  subst e1 e2 e3
  obtain ⟨f, k⟩ := hq _ _ _ q
  obtain ⟨Y, hS2, hZ2, ho2⟩ := rebS (n1 := T.heap.size) i1 (by rw [eT]; exact i2) X' hS hgr hZ ho
  exact ⟨L', q, k, hC, Y, hx, rfl, hZ2, ho2, o.keep k (fun x hx => (hg x hx).1), fr.app f, kp.trans k (fun x hx => (hg x hx).2), ⟨_, hS2, Nat.le_refl _⟩, hC.1, i4.trans hC⟩
theorem o_staticW (W : Wk p l e R (s.setVm V) m args below meth c own Z hb ws (IW s Z EL V) T h locs cells slots) {index : Nat} {y : MethodName} {bytes : ByteArray} {maxL : Nat} {ret : Option FieldType} (w1 : (Cond.methodLink own index y).before a0 Z = true) (w2 : (Cond.static y).before a0 Z = true) (w3 : (Cond.initialized y.cls).before a0 Z = true) (w4 : (Cond.code y bytes maxL ret).before a0 Z = true)
    (hy : y.cls ≠ "java/lang/invoke/MethodHandle" ∧ y.cls ≠ "java/lang/invoke/VarHandle") {Wd kc ks : Nat} {Q : Option Value → Heap → List Loc → Prop} {argsL : List Value} (B : BackSQ l R p e below (s.setVm V) args y 3 Wd argsL.toArray h kc ks Q Z EL V) (hml : L.size = c.maxLocals)
    (hlen : ∀ sig, parseMethodDescriptor y.desc = some sig → argsL.length = sig.parameters.length) {S0 : List Value} (hS : S0 = argsL.reverse ++ S) (hW : 2 * 0 + (S.map fun v => v.category).sum ≤ Wd) (hd : decode c.code pc = .ok (.invokestatic index, 3)) (hp : pc + 3 = pc')
    (hc' : cells + kc = cells') (hs' : slots + ks = slots') (hc : cells' ≤ R.cells) (hs : slots' ≤ R.slots) {wy : List Addr} (hq : ∀ v hh L, Q v hh L → Fr Z.heap.size L ∧ Keep h hh wy) (hg : ∀ x ∈ wy, Z.heap.size ≤ x ∧ (x ∈ ws ∨ hb.size ≤ x))
    (K : ∀ v T' h' V' Lc, Wk p l e R (s.setVm V') m args below meth c own Z hb ws (IW s Z EL V') T' h' (locs ++ Lc) cells' slots' → Keep h h' wy → CHr Z EL V h V' h' → Q v h' Lc → Gl p.tables e below P T' m pc' L (v.toList ++ S)) : Gl p.tables e below P T m pc L S0 := by
  subst hp hc' hs' hS
  obtain ⟨v, vm₁, B', -, X', hS, hgr, hpost, st⟩ := callSS W.1 W.2.1 W.2.2.2.2.1 (mvT W.2.2.2.1 w1) (mvT W.2.2.2.1 w2) (mvT W.2.2.2.1 w3) (mvT W.2.2.2.1 w4) hy B (g := mkF m pc L (argsL.reverse ++ S)) rfl hml hlen rfl hW hd (fun _ _ => ⟨rfl, W.2.2.1, hc, hs⟩)
  obtain ⟨Lc, q, k, hC, W'⟩ := o_afterW W X' hS hgr hpost hq hg
  exact Gl.tr st (K v _ _ _ Lc W' k hC q)
theorem o_specialW (W : Wk p l e R (s.setVm V) m args below meth c own Z hb ws (IW s Z EL V) T h locs cells slots) {index : Nat} {y : MethodName} {bytes : ByteArray} {maxL : Nat} (hy1 : y.name = "<init>") (w1 : (Cond.methodLink own index y).before a0 Z = true) (w2 : (Cond.instanceMethod y).before a0 Z = true) (w4 : (Cond.code y bytes maxL none).before a0 Z = true)
    (hy : y.cls ≠ "java/lang/invoke/MethodHandle" ∧ y.cls ≠ "java/lang/invoke/VarHandle") {Wd kc ks : Nat} {Q : Option Value → Heap → List Loc → Prop} {a : Addr} {argsL : List Value} (B : BackSQ l R p e below (s.setVm V) args y 3 Wd (.ref a :: argsL).toArray h kc ks Q Z EL V) (hml : L.size = c.maxLocals)
    (hlen : ∀ sig, parseMethodDescriptor y.desc = some sig → argsL.length = sig.parameters.length) {S0 : List Value} (hS : S0 = argsL.reverse ++ .ref a :: S) (hW : 2 * 0 + (S.map fun v => v.category).sum ≤ Wd) (hd : decode c.code pc = .ok (.invokespecial index, 3)) (hp : pc + 3 = pc')
    (hc' : cells + kc = cells') (hs' : slots + ks = slots') (hc : cells' ≤ R.cells) (hs : slots' ≤ R.slots) {wy : List Addr} (hq : ∀ v hh L, Q v hh L → Fr Z.heap.size L ∧ Keep h hh wy) (hg : ∀ x ∈ wy, Z.heap.size ≤ x ∧ (x ∈ ws ∨ hb.size ≤ x))
    (K : ∀ v T' h' V' Lc, Wk p l e R (s.setVm V') m args below meth c own Z hb ws (IW s Z EL V') T' h' (locs ++ Lc) cells' slots' → Keep h h' wy → CHr Z EL V h V' h' → Q v h' Lc → Gl p.tables e below P T' m pc' L (v.toList ++ S)) : Gl p.tables e below P T m pc L S0 := by
  subst hp hc' hs' hS
  obtain ⟨v, vm₁, B', -, X', hS, hgr, hpost, st⟩ := W.1.specialBackS W.2.1 hy1 W.2.2.2.2.1 (mvT W.2.2.2.1 w1) (mvT W.2.2.2.1 w2) (mvT W.2.2.2.1 w4) hy B (g := mkF m pc L (argsL.reverse ++ .ref a :: S)) rfl hml (Steps.refl _) hlen rfl hW hd (fun _ _ => ⟨rfl, W.2.2.1, hc, hs⟩)
  obtain ⟨Lc, q, k, hC, W'⟩ := o_afterW W X' hS hgr hpost hq hg
  exact Gl.tr st (K v _ _ _ Lc W' k hC q)
theorem o_leaveWW {Q : Option Value → Heap → Prop} (W : Wk p l e R (s.setVm V) m args below meth c own Z hb ws (IW s Z EL V) T h locs cells slots) (hEL : EW Z a0 EL) (hlk : meth.locks = false) {v : Option Value} (hv : meth.sig.returnType = none → v = none) (hq : Q v h) (hc : cells ≤ R.cells) (hs : slots ≤ R.slots) (st : ∀ fs, (∀ (f : JFrame) (acts : List Action), f.method = m → f.locked = none → f.entered = [] → (doReturn e (T.setTop f) acts v).1 = T.setFrames fs) → Steps p.tables e below (T.setTop (mkF m pc L S)) (T.setFrames fs)) :
    Gl p.tables e below (PW s Z EL below hb ws R Q) T m pc L S := by
  obtain ⟨X, hx, eT, hZ, ho, o, fr, kp, ⟨k0, i1, i2⟩, i3, i4⟩ := W
  obtain ⟨fs, hr, hrun, hended, a1, a2, a3, a4⟩ := X.leaveW i1 (by rw [eT]; exact i2) (v := v) hv
  have eh : (T.setFrames fs).heap = h := eT
  have hA := CHv.at X hZ hEL i3
  exact ⟨_, _, st fs hr, hrun, hended, v, locs, rfl, ⟨fr, by rw [eh]; exact kp, by rw [eh]; exact hq⟩, by rw [eh]; exact i4.trans hA, a1, a2, a3, a4.mono hc hs⟩
theorem o_retNW (W : Wk p l e R (s.setVm V) m args below meth c own Z hb ws (IW s Z EL V) T h locs cells slots) (hEL : EW Z a0 EL) (hlk : meth.locks = false) {Q : Option Value → Heap → Prop} {z z' : Int32} {t : FieldType} (hret : meth.sig.returnType = some t) (ht : t = .boolean ∨ t = .byte ∨ t = .char ∨ t = .short) (hz : nar t z = z') (hd : decode c.code pc = .ok (.ireturn, 1)) (hc : cells ≤ R.cells) (hs : slots ≤ R.slots) (hq : Q (some (.int z')) h) : Gl p.tables e below (PW s Z EL below hb ws R Q) T m pc L (.int z :: S) := by
  subst hz
  exact o_leaveWW W hEL hlk (fun q => by rw [hret] at q; cases q) hq hc hs fun fs hr => retN W.1 W.2.1 hret ht hd hr
theorem o_retAW (W : Wk p l e R (s.setVm V) m args below meth c own Z hb ws (IW s Z EL V) T h locs cells slots) (hEL : EW Z a0 EL) (hlk : meth.locks = false) {Q : Option Value → Heap → Prop} {t : FieldType} {v : Value} (hret : meth.sig.returnType = some t) (ht : t.isReference = true) (hv : v.isRef = true) (hd : decode c.code pc = .ok (.areturn, 1)) (hc : cells ≤ R.cells) (hs : slots ≤ R.slots) (hq : Q (some v) h) : Gl p.tables e below (PW s Z EL below hb ws R Q) T m pc L (v :: S) :=
  o_leaveWW W hEL hlk (fun q => by rw [hret] at q; cases q) hq hc hs fun fs hr => retOut W.1 W.2.1 hret (by cases v <;> first | (cases hv; done) | (cases t <;> first | (cases ht; done) | rfl)) (Or.inr (Or.inr (Or.inr (Or.inr ⟨rfl, ht, hv⟩)))) hd hr
theorem o_ret0W (W : Wk p l e R (s.setVm V) m args below meth c own Z hb ws (IW s Z EL V) T h locs cells slots) (hEL : EW Z a0 EL) (hlk : meth.locks = false) {Q : Option Value → Heap → Prop} (hret : meth.sig.returnType = none) (hd : decode c.code pc = .ok (.return_, 1)) (hc : cells ≤ R.cells) (hs : slots ≤ R.slots) (hq : Q none h) : Gl p.tables e below (PW s Z EL below hb ws R Q) T m pc L [] :=
  o_leaveWW W hEL hlk (fun _ => rfl) hq hc hs fun fs hr => W.1.returnOut W.2.1 hret hd hr
end OwnWide
section OwnMore
variable {p : Program} {l : Launch} {e : Env} {R : Room} {s : State} {m : MethodId} {args : Array Value} {below : List Frame} {meth : Method} {c : Code} {T : State} {locs : List Loc} {cells slots cells' slots' : Nat} {Z : State} {a0 : Array Value} {h h' hb : Heap} {ws : List Addr} {own : String} {I : Heap → Prop} {P : State → Outcome → Prop} {pc pc' : Nat} {L L' : Array Slot} {S : List Value}
end OwnMore
set_option maxRecDepth 65536
set_option maxHeartbeats 40000000

def own_b (x : Int32) : Prop := ¬ x < 0 ∧ ¬ (255 : Int32) < x
def own_01 (x : Int32) : Prop := x = 0 ∨ x = 1
def own_ok (cs : List Int32) : Prop := (∀ c ∈ cs, own_b c) ∧ cs.length ≤ 4000
def own_eq (cs ds : List Int32) : Int32 := if cs = ds then 1 else 0
theorem own_eq01 (cs ds : List Int32) : own_01 (own_eq cs ds) := by unfold own_eq own_01; split <;> simp
theorem own_eq_symm (cs ds : List Int32) : own_eq cs ds = own_eq ds cs := by
  unfold own_eq
  by_cases h : cs = ds
  · rw [if_pos h, if_pos h.symm]
  · rw [if_neg h, if_neg (Ne.symm h)]
theorem own_lcs (x : Int64) : lcmpW x x = 0 := by simp [lcmpW]
theorem own_eqne (cs : List Int32) : ¬ own_eq cs cs = 0 := by unfold own_eq; rw [if_pos rfl]; decide
theorem own_ite0 {P : Prop} [Decidable P] (h : ¬ P) : (0 : Int32) = if P then 1 else 0 := (if_neg h).symm
theorem own_ite1 {P : Prop} [Decidable P] (h : P) : (1 : Int32) = if P then 1 else 0 := (if_pos h).symm
theorem own_b255 (x : Int32) : own_b (x &&& (255 : Int32)) := by
  have h := c_andS x 255
  have h1 : (x &&& (255 : Int32)).toBitVec.toNat ≤ 255 := by
    rw [Int32.toBitVec_and, BitVec.toNat_and]; exact Nat.and_le_right
  have h0 := h.2.2 (by decide)
  have e : (x &&& (255 : Int32)).toInt = (x &&& (255 : Int32)).toBitVec.toNat := by
    show (x &&& (255 : Int32)).toBitVec.toInt = _
    rw [BitVec.toInt_eq_toNat_cond, if_pos (by omega)]
  refine ⟨?_, ?_⟩
  · rw [Int32.lt_iff_toInt_lt]; show ¬ _ < (0 : Int); omega
  · rw [Int32.lt_iff_toInt_lt]; show ¬ (255 : Int) < _; omega
theorem own_bnat {x : Int32} (h : own_b x) : x.toBitVec.toNat ≤ 255 ∧ x.toInt = x.toBitVec.toNat := by
  obtain ⟨h0, h1⟩ := h
  rw [Int32.lt_iff_toInt_lt] at h0 h1
  have e0 : (0 : Int32).toInt = 0 := rfl
  have e1 : (255 : Int32).toInt = 255 := rfl
  have := x.toBitVec.isLt
  have e : x.toInt = x.toBitVec.toInt := rfl
  have e2 : x.toBitVec.toInt = if 2 * x.toBitVec.toNat < 2 ^ 32 then (x.toBitVec.toNat : Int) else (x.toBitVec.toNat : Int) - ((2 ^ 32 : Nat) : Int) := BitVec.toInt_eq_toNat_cond x.toBitVec
  split at e2 <;> omega
theorem own_i2c {x : Int32} (h : own_b x) : x.toUInt32.toUInt16.toUInt32.toInt32 = x := by
  obtain ⟨h1, -⟩ := own_bnat h
  apply Int32.toBitVec_inj.mp
  apply BitVec.eq_of_toNat_eq
  show (BitVec.setWidth 32 (BitVec.setWidth 16 x.toBitVec)).toNat = _
  simp only [BitVec.toNat_setWidth]
  omega
theorem own_fitC {x : Int32} (h : own_b x) : fits .char (.int x) = true := by
  have q := fits_nar_char x
  have e : nar .char x = x := own_i2c h
  rw [e] at q; exact q
theorem own_nar01 {x : Int32} (h : own_01 x) : x &&& 1 = x := by rcases h with rfl | rfl <;> decide
theorem own_fit01 {x : Int32} (h : own_01 x) : fits .boolean (.int x) = true := by rcases h with rfl | rfl <;> decide
theorem own_up {cs : List Int32} (h : own_ok cs) : ∀ c ∈ cs, ¬ c < 0 ∧ ¬ (65535 : Int32) < c := fun c hc => by
  obtain ⟨h0, h1⟩ := h.1 c hc
  refine ⟨h0, fun q => h1 ?_⟩
  rw [Int32.lt_iff_toInt_lt] at q ⊢
  have e0 : (65535 : Int32).toInt = 65535 := rfl
  have e1 : (255 : Int32).toInt = 255 := rfl
  omega
theorem own_eqv {v : Option Value} {cs ds : List Int32} (h : (v = some (.int 1) ∧ cs = ds) ∨ (v = some (.int 0) ∧ ¬ cs = ds)) : v = some (.int (own_eq cs ds)) := by
  unfold own_eq
  rcases h with ⟨rfl, h⟩ | ⟨rfl, h⟩
  · rw [if_pos h]
  · rw [if_neg h]
theorem own_b8 (x : Int32) : x.toInt8.toInt32.toInt8.toInt32 = x.toInt8.toInt32 := by simp
theorem own_fit8 (x : Int32) : fits .byte (.int x.toInt8.toInt32) = true := fits_nar_byte x
theorem own_shr8 {x : Int32} (h : own_b x) : (x.toUInt32 >>> ((8 : Int32) &&& 31).toUInt32).toInt32 = 0 := by
  obtain ⟨h1, -⟩ := own_bnat h
  apply Int32.toBitVec_inj.mp
  apply BitVec.eq_of_toNat_eq
  have e : ((8 : Int32) &&& 31).toUInt32 = 8 := by decide
  rw [e]
  show (x.toUInt32 >>> 8).toBitVec.toNat = 0
  rw [UInt32.toBitVec_shiftRight]
  show (x.toBitVec >>> (8 : UInt32).toBitVec.umod 32).toNat = 0
  rw [BitVec.ushiftRight_eq', BitVec.toNat_ushiftRight, show ((8 : UInt32).toBitVec.umod 32).toNat = 8 by decide, Nat.shiftRight_eq_div_pow]
  omega
theorem own_eqS {args : Array Value} {Z : State} {t : Term} {x : Int32} (h : t.eval args Z none [] Z = some (.int x)) : (Jvm.Cond.eq t (.int 0)).value args Z none Z [] = some (decide (x = 0)) := by
  simp [Cond.value, h, Term.eval]
theorem own_same {n : Nat} {L : List Loc} {h hh : Heap} (q : L = [] ∧ hh = h) : Fr n L ∧ Keep h hh [] := by
  obtain ⟨rfl, rfl⟩ := q
  exact ⟨Fr.nil _, Keep.refl _ _⟩
theorem own_cod {cs : List Int32} (h : own_ok cs) : StrChars.Road.CodA cs 0 (Int32.ofNat (cs).length) ((cs).map fun c => Value.int (StrChars.lo8 c)) := Or.inl ⟨rfl, rfl, rfl, fun c hc => (h.1 c hc).2⟩
theorem own_hV {Z : State} {a0 : Array Value} (hw : ∀ d ∈ tables_1, d.before a0 Z = true) : ∀ d ∈ StrChars.Road.words, d.before a0 Z = true := fun d hd => hw d ((by decide +kernel : ∀ w ∈ StrChars.Road.words, w ∈ tables_1) d hd)
theorem own_hE {Z : State} {a0 : Array Value} (hw : ∀ d ∈ tables_1, d.before a0 Z = true) : ∀ d ∈ StrChars.Road.wordsEq, d.before a0 Z = true := fun d hd => hw d ((by decide +kernel : ∀ w ∈ StrChars.Road.wordsEq, w ∈ tables_1) d hd)
theorem own_wS {Z : State} {a0 : Array Value} (hw : ∀ d ∈ tables_1, d.before a0 Z = true) : ∀ a ∈ Bundle.stringAtoms, a.before a0 Z = true := fun d hd => hw d ((by decide +kernel : ∀ w ∈ Bundle.stringAtoms, w ∈ tables_1) d hd)
theorem own_EL {Z : State} {a0 : Array Value} (hw : ∀ d ∈ tables_1, d.before a0 Z = true) : EW Z a0 consts_1 := (EW.cons (hw _ (List.mem_of_getElem? (i := 24) rfl)) (by decide) EW.nil)

def own_3 (n : Int32) : Prop := n = 0 ∨ n = 1 ∨ n = 2
def own_cs2 (n a b : Int32) : List Int32 := if n = 0 then [] else if n = 1 then [a] else [a, b]
theorem own_cs2_0 {n a b : Int32} (h : n = 0) : own_cs2 n a b = [] := by simp [own_cs2, h]
theorem own_cs2_1 {n a b : Int32} (h : n = 1) : own_cs2 n a b = [a] := by subst h; simp [own_cs2]
theorem own_cs2_2 {n a b : Int32} (h0 : ¬ n = 0) (h1 : ¬ n = 1) : own_cs2 n a b = [a, b] := by simp [own_cs2, h0, h1]
theorem own_cs2ok {n a b : Int32} (ha : own_b a) (hb : own_b b) : own_ok (own_cs2 n a b) := by
  unfold own_cs2
  refine ⟨?_, ?_⟩
  · intro x hx
    split at hx
    · cases hx
    · split at hx
      · simp only [List.mem_cons, List.not_mem_nil, or_false] at hx; subst hx; exact ha
      · simp only [List.mem_cons, List.not_mem_nil, or_false] at hx; rcases hx with rfl | rfl <;> assumption
  · repeat' split
    all_goals simp
theorem own_and33 (x : Int32) : own_3 ((x &&& (3 : Int32)) % (3 : Int32)) := by
  have h1 : (x &&& (3 : Int32)).toBitVec.toNat ≤ 3 := by
    rw [Int32.toBitVec_and, BitVec.toNat_and]; exact Nat.and_le_right
  have key : ∀ b : BitVec 32, b.toNat ≤ 3 → b = 0#32 ∨ b = 1#32 ∨ b = 2#32 ∨ b = 3#32 := fun b hb => by
    rcases Nat.lt_or_ge b.toNat 1 with q | q
    · exact Or.inl (BitVec.eq_of_toNat_eq (by simp; omega))
    · rcases Nat.lt_or_ge b.toNat 2 with q | q
      · exact Or.inr (Or.inl (BitVec.eq_of_toNat_eq (by simp; omega)))
      · rcases Nat.lt_or_ge b.toNat 3 with q | q
        · exact Or.inr (Or.inr (Or.inl (BitVec.eq_of_toNat_eq (by simp; omega))))
        · exact Or.inr (Or.inr (Or.inr (BitVec.eq_of_toNat_eq (by simp; omega))))
  have k2 : ∀ y : Int32, y = 0 ∨ y = 1 ∨ y = 2 ∨ y = 3 → own_3 (y % (3 : Int32)) := fun y hy => by
    rcases hy with rfl | rfl | rfl | rfl <;> unfold own_3 <;> decide
  apply k2
  rcases key _ h1 with q | q | q | q
  · exact Or.inl (Int32.toBitVec_inj.mp q)
  · exact Or.inr (Or.inl (Int32.toBitVec_inj.mp q))
  · exact Or.inr (Or.inr (Or.inl (Int32.toBitVec_inj.mp q)))
  · exact Or.inr (Or.inr (Or.inr (Int32.toBitVec_inj.mp q)))
theorem own_exp2 {n k a b d e : Int32} (hn : own_3 n) (hk : own_3 k) : own_eq (own_cs2 n a b) (own_cs2 k d e) = if n = k ∧ (n < 1 ∨ a = d) ∧ (n < 2 ∨ b = e) then 1 else 0 := by
  unfold own_eq
  congr 1
  rcases hn with rfl | rfl | rfl <;> rcases hk with rfl | rfl | rfl <;> simp [own_cs2] <;> decide

theorem own_vI {x y : Int32} (h : x = y) : some (Value.int x) = some (Value.int y) := by rw [h]

theorem w0 {Z : State} {a0 : Array Value} (hw : ∀ d ∈ tables_1, d.before a0 Z = true) : ((Jvm.Cond.methodLink "com/example/plebiscite/plebiscite/core/CursorGivenByPinLaw" (16 : Nat) ({ cls := "com/example/plebiscite/plebiscite/core/CursorGivenByPinLaw", name := "same", desc := "(ICCICC)Z" } : Jvm.MethodName))).before a0 Z = true := hw _ (List.mem_of_getElem? (i := 0) rfl)
theorem w1 {Z : State} {a0 : Array Value} (hw : ∀ d ∈ tables_1, d.before a0 Z = true) : ((Jvm.Cond.static ({ cls := "com/example/plebiscite/plebiscite/core/CursorGivenByPinLaw", name := "same", desc := "(ICCICC)Z" } : Jvm.MethodName))).before a0 Z = true := hw _ (List.mem_of_getElem? (i := 1) rfl)
theorem w2 {Z : State} {a0 : Array Value} (hw : ∀ d ∈ tables_1, d.before a0 Z = true) : ((Jvm.Cond.initialized "com/example/plebiscite/plebiscite/core/CursorGivenByPinLaw")).before a0 Z = true := hw _ (List.mem_of_getElem? (i := 2) rfl)
theorem w3 {Z : State} {a0 : Array Value} (hw : ∀ d ∈ tables_1, d.before a0 Z = true) : ((Jvm.Cond.code ({ cls := "com/example/plebiscite/plebiscite/core/CursorGivenByPinLaw", name := "same", desc := "(ICCICC)Z" } : Jvm.MethodName) method_3_code (6 : Nat) (Option.some Jvm.ClassFile.FieldType.boolean))).before a0 Z = true := hw _ (List.mem_of_getElem? (i := 3) rfl)
theorem w4 {Z : State} {a0 : Array Value} (hw : ∀ d ∈ tables_1, d.before a0 Z = true) : ((Jvm.Cond.classLink "com/example/plebiscite/plebiscite/core/CursorGivenByPinLaw" (22 : Nat) "com/example/plebiscite/plebiscite/core/Cursor")).before a0 Z = true := hw _ (List.mem_of_getElem? (i := 4) rfl)
theorem w5 {Z : State} {a0 : Array Value} (hw : ∀ d ∈ tables_1, d.before a0 Z = true) : ((Jvm.Cond.instantiable "com/example/plebiscite/plebiscite/core/Cursor" (3 : Nat))).before a0 Z = true := hw _ (List.mem_of_getElem? (i := 5) rfl)
theorem w6 {Z : State} {a0 : Array Value} (hw : ∀ d ∈ tables_1, d.before a0 Z = true) : ((Jvm.Cond.initialized "com/example/plebiscite/plebiscite/core/Cursor")).before a0 Z = true := hw _ (List.mem_of_getElem? (i := 6) rfl)
theorem w7 {Z : State} {a0 : Array Value} (hw : ∀ d ∈ tables_1, d.before a0 Z = true) : ((Jvm.Cond.methodLink "com/example/plebiscite/plebiscite/core/CursorGivenByPinLaw" (24 : Nat) ({ cls := "com/example/plebiscite/plebiscite/core/CursorGivenByPinLaw", name := "str", desc := "(ICC)Ljava/lang/String;" } : Jvm.MethodName))).before a0 Z = true := hw _ (List.mem_of_getElem? (i := 7) rfl)
theorem w8 {Z : State} {a0 : Array Value} (hw : ∀ d ∈ tables_1, d.before a0 Z = true) : ((Jvm.Cond.static ({ cls := "com/example/plebiscite/plebiscite/core/CursorGivenByPinLaw", name := "str", desc := "(ICC)Ljava/lang/String;" } : Jvm.MethodName))).before a0 Z = true := hw _ (List.mem_of_getElem? (i := 8) rfl)
theorem w9 {Z : State} {a0 : Array Value} (hw : ∀ d ∈ tables_1, d.before a0 Z = true) : ((Jvm.Cond.code ({ cls := "com/example/plebiscite/plebiscite/core/CursorGivenByPinLaw", name := "str", desc := "(ICC)Ljava/lang/String;" } : Jvm.MethodName) method_2_code (4 : Nat) (Option.some (Jvm.ClassFile.FieldType.object "java/lang/String")))).before a0 Z = true := hw _ (List.mem_of_getElem? (i := 9) rfl)
theorem w10 {Z : State} {a0 : Array Value} (hw : ∀ d ∈ tables_1, d.before a0 Z = true) : ((Jvm.Cond.classLink "com/example/plebiscite/plebiscite/core/CursorGivenByPinLaw" (7 : Nat) "java/lang/String")).before a0 Z = true := hw _ (List.mem_of_getElem? (i := 10) rfl)
theorem w11 {Z : State} {a0 : Array Value} (hw : ∀ d ∈ tables_1, d.before a0 Z = true) : ((Jvm.Cond.instantiable "java/lang/String" (4 : Nat))).before a0 Z = true := hw _ (List.mem_of_getElem? (i := 11) rfl)
theorem w12 {Z : State} {a0 : Array Value} (hw : ∀ d ∈ tables_1, d.before a0 Z = true) : ((Jvm.Cond.initialized "java/lang/String")).before a0 Z = true := hw _ (List.mem_of_getElem? (i := 12) rfl)
theorem w13 {Z : State} {a0 : Array Value} (hw : ∀ d ∈ tables_1, d.before a0 Z = true) : ((Jvm.Cond.arrayClass Jvm.ClassFile.FieldType.char)).before a0 Z = true := hw _ (List.mem_of_getElem? (i := 13) rfl)
theorem w14 {Z : State} {a0 : Array Value} (hw : ∀ d ∈ tables_1, d.before a0 Z = true) : ((Jvm.Cond.methodLink "com/example/plebiscite/plebiscite/core/CursorGivenByPinLaw" (9 : Nat) ({ cls := "java/lang/String", name := "<init>", desc := "([C)V" } : Jvm.MethodName))).before a0 Z = true := hw _ (List.mem_of_getElem? (i := 14) rfl)
theorem w15 {Z : State} {a0 : Array Value} (hw : ∀ d ∈ tables_1, d.before a0 Z = true) : ((Jvm.Cond.instanceMethod ({ cls := "java/lang/String", name := "<init>", desc := "([C)V" } : Jvm.MethodName))).before a0 Z = true := hw _ (List.mem_of_getElem? (i := 15) rfl)
theorem w16 {Z : State} {a0 : Array Value} (hw : ∀ d ∈ tables_1, d.before a0 Z = true) : ((Jvm.Cond.code ({ cls := "java/lang/String", name := "<init>", desc := "([C)V" } : Jvm.MethodName) jdk_42_method_3_code (2 : Nat) (Option.none : Option Jvm.ClassFile.FieldType))).before a0 Z = true := hw _ (List.mem_of_getElem? (i := 16) rfl)
theorem w17 {Z : State} {a0 : Array Value} (hw : ∀ d ∈ tables_1, d.before a0 Z = true) : ((Jvm.Cond.methodLink "java/lang/String" (27 : Nat) ({ cls := "java/lang/String", name := "<init>", desc := "([CIILjava/lang/Void;)V" } : Jvm.MethodName))).before a0 Z = true := hw _ (List.mem_of_getElem? (i := 17) rfl)
theorem w18 {Z : State} {a0 : Array Value} (hw : ∀ d ∈ tables_1, d.before a0 Z = true) : ((Jvm.Cond.instanceMethod ({ cls := "java/lang/String", name := "<init>", desc := "([CIILjava/lang/Void;)V" } : Jvm.MethodName))).before a0 Z = true := hw _ (List.mem_of_getElem? (i := 18) rfl)
theorem w20 {Z : State} {a0 : Array Value} (hw : ∀ d ∈ tables_1, d.before a0 Z = true) : ((Jvm.Cond.code ({ cls := "java/lang/String", name := "<init>", desc := "([CIILjava/lang/Void;)V" } : Jvm.MethodName) jdk_42_method_149_code (6 : Nat) (Option.none : Option Jvm.ClassFile.FieldType))).before a0 Z = true := hw _ (List.mem_of_getElem? (i := 20) rfl)
theorem w21 {Z : State} {a0 : Array Value} (hw : ∀ d ∈ tables_1, d.before a0 Z = true) : ((Jvm.Cond.methodLink "java/lang/String" (1 : Nat) ({ cls := "java/lang/Object", name := "<init>", desc := "()V" } : Jvm.MethodName))).before a0 Z = true := hw _ (List.mem_of_getElem? (i := 21) rfl)
theorem w22 {Z : State} {a0 : Array Value} (hw : ∀ d ∈ tables_1, d.before a0 Z = true) : ((Jvm.Cond.instanceMethod ({ cls := "java/lang/Object", name := "<init>", desc := "()V" } : Jvm.MethodName))).before a0 Z = true := hw _ (List.mem_of_getElem? (i := 22) rfl)
theorem w23 {Z : State} {a0 : Array Value} (hw : ∀ d ∈ tables_1, d.before a0 Z = true) : ((Jvm.Cond.code ({ cls := "java/lang/Object", name := "<init>", desc := "()V" } : Jvm.MethodName) object_method_1_code (1 : Nat) (Option.none : Option Jvm.ClassFile.FieldType))).before a0 Z = true := hw _ (List.mem_of_getElem? (i := 23) rfl)
theorem w24 {Z : State} {a0 : Array Value} (hw : ∀ d ∈ tables_1, d.before a0 Z = true) : ((Jvm.Cond.stringLink "java/lang/String" (7 : Nat) "")).before a0 Z = true := hw _ (List.mem_of_getElem? (i := 24) rfl)
theorem w25 {Z : State} {a0 : Array Value} (hw : ∀ d ∈ tables_1, d.before a0 Z = true) : ((Jvm.Cond.arrayClass Jvm.ClassFile.FieldType.byte)).before a0 Z = true := hw _ (List.mem_of_getElem? (i := 25) rfl)
theorem w26 {Z : State} {a0 : Array Value} (hw : ∀ d ∈ tables_1, d.before a0 Z = true) : ((Jvm.Cond.laysFinal "java/lang/String" "java/lang/String" "value" "[B")).before a0 Z = true := hw _ (List.mem_of_getElem? (i := 26) rfl)
theorem w27 {Z : State} {a0 : Array Value} (hw : ∀ d ∈ tables_1, d.before a0 Z = true) : ((Jvm.Cond.laysFinal "java/lang/String" "java/lang/String" "coder" "B")).before a0 Z = true := hw _ (List.mem_of_getElem? (i := 27) rfl)
theorem w30 {Z : State} {a0 : Array Value} (hw : ∀ d ∈ tables_1, d.before a0 Z = true) : ((Jvm.Cond.fieldLink "java/lang/String" (9 : Nat) "java/lang/String" "value" "[B")).before a0 Z = true := hw _ (List.mem_of_getElem? (i := 30) rfl)
theorem w31 {Z : State} {a0 : Array Value} (hw : ∀ d ∈ tables_1, d.before a0 Z = true) : ((Jvm.Cond.fieldLink "java/lang/String" (15 : Nat) "java/lang/String" "coder" "B")).before a0 Z = true := hw _ (List.mem_of_getElem? (i := 31) rfl)
theorem w32 {Z : State} {a0 : Array Value} (hw : ∀ d ∈ tables_1, d.before a0 Z = true) : ((Jvm.Cond.classLink "com/example/plebiscite/plebiscite/core/CursorGivenByPinLaw" (28 : Nat) "com/example/plebiscite/plebiscite/core/Multilog$Point")).before a0 Z = true := hw _ (List.mem_of_getElem? (i := 32) rfl)
theorem w33 {Z : State} {a0 : Array Value} (hw : ∀ d ∈ tables_1, d.before a0 Z = true) : ((Jvm.Cond.instantiable "com/example/plebiscite/plebiscite/core/Multilog$Point" (4 : Nat))).before a0 Z = true := hw _ (List.mem_of_getElem? (i := 33) rfl)
theorem w34 {Z : State} {a0 : Array Value} (hw : ∀ d ∈ tables_1, d.before a0 Z = true) : ((Jvm.Cond.initialized "com/example/plebiscite/plebiscite/core/Multilog$Point")).before a0 Z = true := hw _ (List.mem_of_getElem? (i := 34) rfl)
theorem w35 {Z : State} {a0 : Array Value} (hw : ∀ d ∈ tables_1, d.before a0 Z = true) : ((Jvm.Cond.methodLink "com/example/plebiscite/plebiscite/core/CursorGivenByPinLaw" (30 : Nat) ({ cls := "com/example/plebiscite/plebiscite/core/Multilog$Point", name := "<init>", desc := "(JJJJ)V" } : Jvm.MethodName))).before a0 Z = true := hw _ (List.mem_of_getElem? (i := 35) rfl)
theorem w36 {Z : State} {a0 : Array Value} (hw : ∀ d ∈ tables_1, d.before a0 Z = true) : ((Jvm.Cond.instanceMethod ({ cls := "com/example/plebiscite/plebiscite/core/Multilog$Point", name := "<init>", desc := "(JJJJ)V" } : Jvm.MethodName))).before a0 Z = true := hw _ (List.mem_of_getElem? (i := 36) rfl)
theorem w37 {Z : State} {a0 : Array Value} (hw : ∀ d ∈ tables_1, d.before a0 Z = true) : ((Jvm.Cond.code ({ cls := "com/example/plebiscite/plebiscite/core/Multilog$Point", name := "<init>", desc := "(JJJJ)V" } : Jvm.MethodName) prog_39_method_1_code (9 : Nat) (Option.none : Option Jvm.ClassFile.FieldType))).before a0 Z = true := hw _ (List.mem_of_getElem? (i := 37) rfl)
theorem w38 {Z : State} {a0 : Array Value} (hw : ∀ d ∈ tables_1, d.before a0 Z = true) : ((Jvm.Cond.methodLink "com/example/plebiscite/plebiscite/core/Multilog$Point" (1 : Nat) ({ cls := "java/lang/Record", name := "<init>", desc := "()V" } : Jvm.MethodName))).before a0 Z = true := hw _ (List.mem_of_getElem? (i := 38) rfl)
theorem w39 {Z : State} {a0 : Array Value} (hw : ∀ d ∈ tables_1, d.before a0 Z = true) : ((Jvm.Cond.instanceMethod ({ cls := "java/lang/Record", name := "<init>", desc := "()V" } : Jvm.MethodName))).before a0 Z = true := hw _ (List.mem_of_getElem? (i := 39) rfl)
theorem w41 {Z : State} {a0 : Array Value} (hw : ∀ d ∈ tables_1, d.before a0 Z = true) : ((Jvm.Cond.initialized "java/lang/Record")).before a0 Z = true := hw _ (List.mem_of_getElem? (i := 41) rfl)
theorem w42 {Z : State} {a0 : Array Value} (hw : ∀ d ∈ tables_1, d.before a0 Z = true) : ((Jvm.Cond.code ({ cls := "java/lang/Record", name := "<init>", desc := "()V" } : Jvm.MethodName) jdk_30_method_1_code (1 : Nat) (Option.none : Option Jvm.ClassFile.FieldType))).before a0 Z = true := hw _ (List.mem_of_getElem? (i := 42) rfl)
theorem w43 {Z : State} {a0 : Array Value} (hw : ∀ d ∈ tables_1, d.before a0 Z = true) : ((Jvm.Cond.methodLink "java/lang/Record" (1 : Nat) ({ cls := "java/lang/Object", name := "<init>", desc := "()V" } : Jvm.MethodName))).before a0 Z = true := hw _ (List.mem_of_getElem? (i := 43) rfl)
theorem w44 {Z : State} {a0 : Array Value} (hw : ∀ d ∈ tables_1, d.before a0 Z = true) : ((Jvm.Cond.fieldLink "com/example/plebiscite/plebiscite/core/Multilog$Point" (7 : Nat) "com/example/plebiscite/plebiscite/core/Multilog$Point" "actions" "J")).before a0 Z = true := hw _ (List.mem_of_getElem? (i := 44) rfl)
theorem w45 {Z : State} {a0 : Array Value} (hw : ∀ d ∈ tables_1, d.before a0 Z = true) : ((Jvm.Cond.laysFinal "com/example/plebiscite/plebiscite/core/Multilog$Point" "com/example/plebiscite/plebiscite/core/Multilog$Point" "actions" "J")).before a0 Z = true := hw _ (List.mem_of_getElem? (i := 45) rfl)
theorem w46 {Z : State} {a0 : Array Value} (hw : ∀ d ∈ tables_1, d.before a0 Z = true) : ((Jvm.Cond.fieldLink "com/example/plebiscite/plebiscite/core/Multilog$Point" (13 : Nat) "com/example/plebiscite/plebiscite/core/Multilog$Point" "constraints" "J")).before a0 Z = true := hw _ (List.mem_of_getElem? (i := 46) rfl)
theorem w47 {Z : State} {a0 : Array Value} (hw : ∀ d ∈ tables_1, d.before a0 Z = true) : ((Jvm.Cond.laysFinal "com/example/plebiscite/plebiscite/core/Multilog$Point" "com/example/plebiscite/plebiscite/core/Multilog$Point" "constraints" "J")).before a0 Z = true := hw _ (List.mem_of_getElem? (i := 47) rfl)
theorem w48 {Z : State} {a0 : Array Value} (hw : ∀ d ∈ tables_1, d.before a0 Z = true) : ((Jvm.Cond.fieldLink "com/example/plebiscite/plebiscite/core/Multilog$Point" (16 : Nat) "com/example/plebiscite/plebiscite/core/Multilog$Point" "guarantees" "J")).before a0 Z = true := hw _ (List.mem_of_getElem? (i := 48) rfl)
theorem w49 {Z : State} {a0 : Array Value} (hw : ∀ d ∈ tables_1, d.before a0 Z = true) : ((Jvm.Cond.laysFinal "com/example/plebiscite/plebiscite/core/Multilog$Point" "com/example/plebiscite/plebiscite/core/Multilog$Point" "guarantees" "J")).before a0 Z = true := hw _ (List.mem_of_getElem? (i := 49) rfl)
theorem w50 {Z : State} {a0 : Array Value} (hw : ∀ d ∈ tables_1, d.before a0 Z = true) : ((Jvm.Cond.fieldLink "com/example/plebiscite/plebiscite/core/Multilog$Point" (19 : Nat) "com/example/plebiscite/plebiscite/core/Multilog$Point" "kills" "J")).before a0 Z = true := hw _ (List.mem_of_getElem? (i := 50) rfl)
theorem w51 {Z : State} {a0 : Array Value} (hw : ∀ d ∈ tables_1, d.before a0 Z = true) : ((Jvm.Cond.laysFinal "com/example/plebiscite/plebiscite/core/Multilog$Point" "com/example/plebiscite/plebiscite/core/Multilog$Point" "kills" "J")).before a0 Z = true := hw _ (List.mem_of_getElem? (i := 51) rfl)
theorem w52 {Z : State} {a0 : Array Value} (hw : ∀ d ∈ tables_1, d.before a0 Z = true) : ((Jvm.Cond.methodLink "com/example/plebiscite/plebiscite/core/CursorGivenByPinLaw" (33 : Nat) ({ cls := "com/example/plebiscite/plebiscite/core/Cursor", name := "<init>", desc := "(Ljava/lang/String;Ljava/lang/String;Lcom/example/plebiscite/plebiscite/core/Multilog$Point;)V" } : Jvm.MethodName))).before a0 Z = true := hw _ (List.mem_of_getElem? (i := 52) rfl)
theorem w53 {Z : State} {a0 : Array Value} (hw : ∀ d ∈ tables_1, d.before a0 Z = true) : ((Jvm.Cond.instanceMethod ({ cls := "com/example/plebiscite/plebiscite/core/Cursor", name := "<init>", desc := "(Ljava/lang/String;Ljava/lang/String;Lcom/example/plebiscite/plebiscite/core/Multilog$Point;)V" } : Jvm.MethodName))).before a0 Z = true := hw _ (List.mem_of_getElem? (i := 53) rfl)
theorem w54 {Z : State} {a0 : Array Value} (hw : ∀ d ∈ tables_1, d.before a0 Z = true) : ((Jvm.Cond.code ({ cls := "com/example/plebiscite/plebiscite/core/Cursor", name := "<init>", desc := "(Ljava/lang/String;Ljava/lang/String;Lcom/example/plebiscite/plebiscite/core/Multilog$Point;)V" } : Jvm.MethodName) prog_21_method_1_code (4 : Nat) (Option.none : Option Jvm.ClassFile.FieldType))).before a0 Z = true := hw _ (List.mem_of_getElem? (i := 54) rfl)
theorem w55 {Z : State} {a0 : Array Value} (hw : ∀ d ∈ tables_1, d.before a0 Z = true) : ((Jvm.Cond.methodLink "com/example/plebiscite/plebiscite/core/Cursor" (1 : Nat) ({ cls := "java/lang/Record", name := "<init>", desc := "()V" } : Jvm.MethodName))).before a0 Z = true := hw _ (List.mem_of_getElem? (i := 55) rfl)
theorem w56 {Z : State} {a0 : Array Value} (hw : ∀ d ∈ tables_1, d.before a0 Z = true) : ((Jvm.Cond.fieldLink "com/example/plebiscite/plebiscite/core/Cursor" (7 : Nat) "com/example/plebiscite/plebiscite/core/Cursor" "replica" "Ljava/lang/String;")).before a0 Z = true := hw _ (List.mem_of_getElem? (i := 56) rfl)
theorem w57 {Z : State} {a0 : Array Value} (hw : ∀ d ∈ tables_1, d.before a0 Z = true) : ((Jvm.Cond.laysFinal "com/example/plebiscite/plebiscite/core/Cursor" "com/example/plebiscite/plebiscite/core/Cursor" "replica" "Ljava/lang/String;")).before a0 Z = true := hw _ (List.mem_of_getElem? (i := 57) rfl)
theorem w58 {Z : State} {a0 : Array Value} (hw : ∀ d ∈ tables_1, d.before a0 Z = true) : ((Jvm.Cond.fieldLink "com/example/plebiscite/plebiscite/core/Cursor" (13 : Nat) "com/example/plebiscite/plebiscite/core/Cursor" "epoch" "Ljava/lang/String;")).before a0 Z = true := hw _ (List.mem_of_getElem? (i := 58) rfl)
theorem w59 {Z : State} {a0 : Array Value} (hw : ∀ d ∈ tables_1, d.before a0 Z = true) : ((Jvm.Cond.laysFinal "com/example/plebiscite/plebiscite/core/Cursor" "com/example/plebiscite/plebiscite/core/Cursor" "epoch" "Ljava/lang/String;")).before a0 Z = true := hw _ (List.mem_of_getElem? (i := 59) rfl)
theorem w60 {Z : State} {a0 : Array Value} (hw : ∀ d ∈ tables_1, d.before a0 Z = true) : ((Jvm.Cond.fieldLink "com/example/plebiscite/plebiscite/core/Cursor" (16 : Nat) "com/example/plebiscite/plebiscite/core/Cursor" "point" "Lcom/example/plebiscite/plebiscite/core/Multilog$Point;")).before a0 Z = true := hw _ (List.mem_of_getElem? (i := 60) rfl)
theorem w61 {Z : State} {a0 : Array Value} (hw : ∀ d ∈ tables_1, d.before a0 Z = true) : ((Jvm.Cond.laysFinal "com/example/plebiscite/plebiscite/core/Cursor" "com/example/plebiscite/plebiscite/core/Cursor" "point" "Lcom/example/plebiscite/plebiscite/core/Multilog$Point;")).before a0 Z = true := hw _ (List.mem_of_getElem? (i := 61) rfl)
theorem w62 {Z : State} {a0 : Array Value} (hw : ∀ d ∈ tables_1, d.before a0 Z = true) : ((Jvm.Cond.methodLink "com/example/plebiscite/plebiscite/core/CursorGivenByPinLaw" (36 : Nat) ({ cls := "com/example/plebiscite/plebiscite/core/Cursor", name := "givenBy", desc := "(Ljava/lang/String;Ljava/lang/String;)Z" } : Jvm.MethodName))).before a0 Z = true := hw _ (List.mem_of_getElem? (i := 62) rfl)
theorem w63 {Z : State} {a0 : Array Value} (hw : ∀ d ∈ tables_1, d.before a0 Z = true) : ((Jvm.Cond.declares ({ cls := "com/example/plebiscite/plebiscite/core/Cursor", name := "givenBy", desc := "(Ljava/lang/String;Ljava/lang/String;)Z" } : Jvm.MethodName))).before a0 Z = true := hw _ (List.mem_of_getElem? (i := 63) rfl)
theorem w64 {Z : State} {a0 : Array Value} (hw : ∀ d ∈ tables_1, d.before a0 Z = true) : ((Jvm.Cond.instanceMethod ({ cls := "com/example/plebiscite/plebiscite/core/Cursor", name := "givenBy", desc := "(Ljava/lang/String;Ljava/lang/String;)Z" } : Jvm.MethodName))).before a0 Z = true := hw _ (List.mem_of_getElem? (i := 64) rfl)
theorem w65 {Z : State} {a0 : Array Value} (hw : ∀ d ∈ tables_1, d.before a0 Z = true) : ((Jvm.Cond.selects "com/example/plebiscite/plebiscite/core/Cursor" ({ cls := "com/example/plebiscite/plebiscite/core/Cursor", name := "givenBy", desc := "(Ljava/lang/String;Ljava/lang/String;)Z" } : Jvm.MethodName) ({ cls := "com/example/plebiscite/plebiscite/core/Cursor", name := "givenBy", desc := "(Ljava/lang/String;Ljava/lang/String;)Z" } : Jvm.MethodName))).before a0 Z = true := hw _ (List.mem_of_getElem? (i := 65) rfl)
theorem w66 {Z : State} {a0 : Array Value} (hw : ∀ d ∈ tables_1, d.before a0 Z = true) : ((Jvm.Cond.code ({ cls := "com/example/plebiscite/plebiscite/core/Cursor", name := "givenBy", desc := "(Ljava/lang/String;Ljava/lang/String;)Z" } : Jvm.MethodName) prog_21_method_5_code (3 : Nat) (Option.some Jvm.ClassFile.FieldType.boolean))).before a0 Z = true := hw _ (List.mem_of_getElem? (i := 66) rfl)
theorem w67 {Z : State} {a0 : Array Value} (hw : ∀ d ∈ tables_1, d.before a0 Z = true) : ((Jvm.Cond.methodLink "com/example/plebiscite/plebiscite/core/Cursor" (110 : Nat) ({ cls := "java/lang/String", name := "equals", desc := "(Ljava/lang/Object;)Z" } : Jvm.MethodName))).before a0 Z = true := hw _ (List.mem_of_getElem? (i := 67) rfl)
theorem w68 {Z : State} {a0 : Array Value} (hw : ∀ d ∈ tables_1, d.before a0 Z = true) : ((Jvm.Cond.declares ({ cls := "java/lang/String", name := "equals", desc := "(Ljava/lang/Object;)Z" } : Jvm.MethodName))).before a0 Z = true := hw _ (List.mem_of_getElem? (i := 68) rfl)
theorem w69 {Z : State} {a0 : Array Value} (hw : ∀ d ∈ tables_1, d.before a0 Z = true) : ((Jvm.Cond.instanceMethod ({ cls := "java/lang/String", name := "equals", desc := "(Ljava/lang/Object;)Z" } : Jvm.MethodName))).before a0 Z = true := hw _ (List.mem_of_getElem? (i := 69) rfl)
theorem w70 {Z : State} {a0 : Array Value} (hw : ∀ d ∈ tables_1, d.before a0 Z = true) : ((Jvm.Cond.selects "java/lang/String" ({ cls := "java/lang/String", name := "equals", desc := "(Ljava/lang/Object;)Z" } : Jvm.MethodName) ({ cls := "java/lang/String", name := "equals", desc := "(Ljava/lang/Object;)Z" } : Jvm.MethodName))).before a0 Z = true := hw _ (List.mem_of_getElem? (i := 70) rfl)
theorem w72 {Z : State} {a0 : Array Value} (hw : ∀ d ∈ tables_1, d.before a0 Z = true) : ((Jvm.Cond.classLink "java/lang/String" (10 : Nat) "java/lang/String")).before a0 Z = true := hw _ (List.mem_of_getElem? (i := 72) rfl)
theorem w73 {Z : State} {a0 : Array Value} (hw : ∀ d ∈ tables_1, d.before a0 Z = true) : ((Jvm.Cond.fieldLink "java/lang/String" (38 : Nat) "java/lang/String" "COMPACT_STRINGS" "Z")).before a0 Z = true := hw _ (List.mem_of_getElem? (i := 73) rfl)
theorem w76 {Z : State} {a0 : Array Value} (hw : ∀ d ∈ tables_1, d.before a0 Z = true) : ((Jvm.Cond.initialized "java/lang/StringLatin1")).before a0 Z = true := hw _ (List.mem_of_getElem? (i := 76) rfl)
theorem w88 {Z : State} {a0 : Array Value} (hw : ∀ d ∈ tables_1, d.before a0 Z = true) : ((Jvm.Cond.methodLink "com/example/plebiscite/plebiscite/core/CursorGivenByPinLaw" (12 : Nat) ({ cls := "java/lang/String", name := "valueOf", desc := "(C)Ljava/lang/String;" } : Jvm.MethodName))).before a0 Z = true := hw _ (List.mem_of_getElem? (i := 88) rfl)
theorem w89 {Z : State} {a0 : Array Value} (hw : ∀ d ∈ tables_1, d.before a0 Z = true) : ((Jvm.Cond.static ({ cls := "java/lang/String", name := "valueOf", desc := "(C)Ljava/lang/String;" } : Jvm.MethodName))).before a0 Z = true := hw _ (List.mem_of_getElem? (i := 89) rfl)
theorem w90 {Z : State} {a0 : Array Value} (hw : ∀ d ∈ tables_1, d.before a0 Z = true) : ((Jvm.Cond.code ({ cls := "java/lang/String", name := "valueOf", desc := "(C)Ljava/lang/String;" } : Jvm.MethodName) jdk_42_method_139_code (1 : Nat) (Option.some (Jvm.ClassFile.FieldType.object "java/lang/String")))).before a0 Z = true := hw _ (List.mem_of_getElem? (i := 90) rfl)
theorem w91 {Z : State} {a0 : Array Value} (hw : ∀ d ∈ tables_1, d.before a0 Z = true) : ((Jvm.Cond.methodLink "java/lang/String" (1015 : Nat) ({ cls := "java/lang/StringLatin1", name := "canEncode", desc := "(C)Z" } : Jvm.MethodName))).before a0 Z = true := hw _ (List.mem_of_getElem? (i := 91) rfl)
theorem w92 {Z : State} {a0 : Array Value} (hw : ∀ d ∈ tables_1, d.before a0 Z = true) : ((Jvm.Cond.static ({ cls := "java/lang/StringLatin1", name := "canEncode", desc := "(C)Z" } : Jvm.MethodName))).before a0 Z = true := hw _ (List.mem_of_getElem? (i := 92) rfl)
theorem w93 {Z : State} {a0 : Array Value} (hw : ∀ d ∈ tables_1, d.before a0 Z = true) : ((Jvm.Cond.code ({ cls := "java/lang/StringLatin1", name := "canEncode", desc := "(C)Z" } : Jvm.MethodName) jdk_43_method_3_code (1 : Nat) (Option.some Jvm.ClassFile.FieldType.boolean))).before a0 Z = true := hw _ (List.mem_of_getElem? (i := 93) rfl)
theorem w94 {Z : State} {a0 : Array Value} (hw : ∀ d ∈ tables_1, d.before a0 Z = true) : ((Jvm.Cond.methodLink "java/lang/String" (1018 : Nat) ({ cls := "java/lang/StringLatin1", name := "toBytes", desc := "(C)[B" } : Jvm.MethodName))).before a0 Z = true := hw _ (List.mem_of_getElem? (i := 94) rfl)
theorem w95 {Z : State} {a0 : Array Value} (hw : ∀ d ∈ tables_1, d.before a0 Z = true) : ((Jvm.Cond.static ({ cls := "java/lang/StringLatin1", name := "toBytes", desc := "(C)[B" } : Jvm.MethodName))).before a0 Z = true := hw _ (List.mem_of_getElem? (i := 95) rfl)
theorem w96 {Z : State} {a0 : Array Value} (hw : ∀ d ∈ tables_1, d.before a0 Z = true) : ((Jvm.Cond.code ({ cls := "java/lang/StringLatin1", name := "toBytes", desc := "(C)[B" } : Jvm.MethodName) jdk_43_method_46_code (1 : Nat) (Option.some (Jvm.ClassFile.FieldType.array Jvm.ClassFile.FieldType.byte)))).before a0 Z = true := hw _ (List.mem_of_getElem? (i := 96) rfl)
theorem w97 {Z : State} {a0 : Array Value} (hw : ∀ d ∈ tables_1, d.before a0 Z = true) : ((Jvm.Cond.methodLink "java/lang/String" (209 : Nat) ({ cls := "java/lang/String", name := "<init>", desc := "([BB)V" } : Jvm.MethodName))).before a0 Z = true := hw _ (List.mem_of_getElem? (i := 97) rfl)
theorem w98 {Z : State} {a0 : Array Value} (hw : ∀ d ∈ tables_1, d.before a0 Z = true) : ((Jvm.Cond.instanceMethod ({ cls := "java/lang/String", name := "<init>", desc := "([BB)V" } : Jvm.MethodName))).before a0 Z = true := hw _ (List.mem_of_getElem? (i := 98) rfl)
theorem w99 {Z : State} {a0 : Array Value} (hw : ∀ d ∈ tables_1, d.before a0 Z = true) : ((Jvm.Cond.code ({ cls := "java/lang/String", name := "<init>", desc := "([BB)V" } : Jvm.MethodName) jdk_42_method_151_code (3 : Nat) (Option.none : Option Jvm.ClassFile.FieldType))).before a0 Z = true := hw _ (List.mem_of_getElem? (i := 99) rfl)
theorem d1_0 : decode method_3_code 0 = .ok (.iload_n 0, 1) := by decide +kernel
theorem d1_1 : decode method_3_code 1 = .ok (.iload_n 3, 1) := by decide +kernel
theorem d1_2 : decode method_3_code 2 = .ok (.if_icmp .eq 5, 3) := by decide +kernel
theorem d1_5 : decode method_3_code 5 = .ok (.iconst 0, 1) := by decide +kernel
theorem d1_6 : decode method_3_code 6 = .ok (.ireturn, 1) := by decide +kernel
theorem d1_7 : decode method_3_code 7 = .ok (.iload_n 0, 1) := by decide +kernel
theorem d1_8 : decode method_3_code 8 = .ok (.iconst 1, 1) := by decide +kernel
theorem d1_9 : decode method_3_code 9 = .ok (.if_icmp .lt 11, 3) := by decide +kernel
theorem d1_12 : decode method_3_code 12 = .ok (.iload_n 1, 1) := by decide +kernel
theorem d1_13 : decode method_3_code 13 = .ok (.iload 4, 2) := by decide +kernel
theorem d1_15 : decode method_3_code 15 = .ok (.if_icmp .eq 5, 3) := by decide +kernel
theorem d1_18 : decode method_3_code 18 = .ok (.iconst 0, 1) := by decide +kernel
theorem d1_19 : decode method_3_code 19 = .ok (.ireturn, 1) := by decide +kernel
theorem d1_20 : decode method_3_code 20 = .ok (.iload_n 0, 1) := by decide +kernel
theorem d1_21 : decode method_3_code 21 = .ok (.iconst 2, 1) := by decide +kernel
theorem d1_22 : decode method_3_code 22 = .ok (.if_icmp .lt 11, 3) := by decide +kernel
theorem d1_25 : decode method_3_code 25 = .ok (.iload_n 2, 1) := by decide +kernel
theorem d1_26 : decode method_3_code 26 = .ok (.iload 5, 2) := by decide +kernel
theorem d1_28 : decode method_3_code 28 = .ok (.if_icmp .eq 5, 3) := by decide +kernel
theorem d1_31 : decode method_3_code 31 = .ok (.iconst 0, 1) := by decide +kernel
theorem d1_32 : decode method_3_code 32 = .ok (.ireturn, 1) := by decide +kernel
theorem d1_33 : decode method_3_code 33 = .ok (.iconst 1, 1) := by decide +kernel
theorem d1_34 : decode method_3_code 34 = .ok (.ireturn, 1) := by decide +kernel
theorem d2_0 : decode method_2_code 0 = .ok (.iload_n 0, 1) := by decide +kernel
theorem d2_1 : decode method_2_code 1 = .ok (.ifCond .ne 14, 3) := by decide +kernel
theorem d2_4 : decode method_2_code 4 = .ok (.new 7, 3) := by decide +kernel
theorem d2_7 : decode method_2_code 7 = .ok (.dup, 1) := by decide +kernel
theorem d2_8 : decode method_2_code 8 = .ok (.iconst 0, 1) := by decide +kernel
theorem d2_9 : decode method_2_code 9 = .ok (.newarray .char, 2) := by decide +kernel
theorem d2_11 : decode method_2_code 11 = .ok (.invokespecial 9, 3) := by decide +kernel
theorem d2_14 : decode method_2_code 14 = .ok (.areturn, 1) := by decide +kernel
theorem d2_15 : decode method_2_code 15 = .ok (.iload_n 0, 1) := by decide +kernel
theorem d2_16 : decode method_2_code 16 = .ok (.iconst 1, 1) := by decide +kernel
theorem d2_17 : decode method_2_code 17 = .ok (.if_icmp .ne 8, 3) := by decide +kernel
theorem d2_20 : decode method_2_code 20 = .ok (.iload_n 1, 1) := by decide +kernel
theorem d2_21 : decode method_2_code 21 = .ok (.invokestatic 12, 3) := by decide +kernel
theorem d2_24 : decode method_2_code 24 = .ok (.areturn, 1) := by decide +kernel
theorem d2_25 : decode method_2_code 25 = .ok (.iconst 2, 1) := by decide +kernel
theorem d2_26 : decode method_2_code 26 = .ok (.newarray .char, 2) := by decide +kernel
theorem d2_28 : decode method_2_code 28 = .ok (.astore_n 3, 1) := by decide +kernel
theorem d2_29 : decode method_2_code 29 = .ok (.aload_n 3, 1) := by decide +kernel
theorem d2_30 : decode method_2_code 30 = .ok (.iconst 0, 1) := by decide +kernel
theorem d2_31 : decode method_2_code 31 = .ok (.iload_n 1, 1) := by decide +kernel
theorem d2_32 : decode method_2_code 32 = .ok (.castore, 1) := by decide +kernel
theorem d2_33 : decode method_2_code 33 = .ok (.aload_n 3, 1) := by decide +kernel
theorem d2_34 : decode method_2_code 34 = .ok (.iconst 1, 1) := by decide +kernel
theorem d2_35 : decode method_2_code 35 = .ok (.iload_n 2, 1) := by decide +kernel
theorem d2_36 : decode method_2_code 36 = .ok (.castore, 1) := by decide +kernel
theorem d2_37 : decode method_2_code 37 = .ok (.new 7, 3) := by decide +kernel
theorem d2_40 : decode method_2_code 40 = .ok (.dup, 1) := by decide +kernel
theorem d2_41 : decode method_2_code 41 = .ok (.aload_n 3, 1) := by decide +kernel
theorem d2_42 : decode method_2_code 42 = .ok (.invokespecial 9, 3) := by decide +kernel
theorem d2_45 : decode method_2_code 45 = .ok (.areturn, 1) := by decide +kernel
theorem d3_0 : decode jdk_42_method_3_code 0 = .ok (.aload_n 0, 1) := by decide +kernel
theorem d3_1 : decode jdk_42_method_3_code 1 = .ok (.aload_n 1, 1) := by decide +kernel
theorem d3_2 : decode jdk_42_method_3_code 2 = .ok (.iconst 0, 1) := by decide +kernel
theorem d3_3 : decode jdk_42_method_3_code 3 = .ok (.aload_n 1, 1) := by decide +kernel
theorem d3_4 : decode jdk_42_method_3_code 4 = .ok (.arraylength, 1) := by decide +kernel
theorem d3_5 : decode jdk_42_method_3_code 5 = .ok (.aconst_null, 1) := by decide +kernel
theorem d3_6 : decode jdk_42_method_3_code 6 = .ok (.invokespecial 27, 3) := by decide +kernel
theorem d3_9 : decode jdk_42_method_3_code 9 = .ok (.return_, 1) := by decide +kernel
theorem d4_0 : decode jdk_42_method_149_code 0 = .ok (.aload_n 0, 1) := by decide +kernel
theorem d4_1 : decode jdk_42_method_149_code 1 = .ok (.invokespecial 1, 3) := by decide +kernel
theorem d4_4 : decode jdk_42_method_149_code 4 = .ok (.iload_n 3, 1) := by decide +kernel
theorem d4_5 : decode jdk_42_method_149_code 5 = .ok (.ifCond .ne 22, 3) := by decide +kernel
theorem d4_8 : decode jdk_42_method_149_code 8 = .ok (.aload_n 0, 1) := by decide +kernel
theorem d4_9 : decode jdk_42_method_149_code 9 = .ok (.ldc 7, 2) := by decide +kernel
theorem d4_11 : decode jdk_42_method_149_code 11 = .ok (.getfield 9, 3) := by decide +kernel
theorem d4_14 : decode jdk_42_method_149_code 14 = .ok (.putfield 9, 3) := by decide +kernel
theorem d4_17 : decode jdk_42_method_149_code 17 = .ok (.aload_n 0, 1) := by decide +kernel
theorem d4_18 : decode jdk_42_method_149_code 18 = .ok (.ldc 7, 2) := by decide +kernel
theorem d4_20 : decode jdk_42_method_149_code 20 = .ok (.getfield 15, 3) := by decide +kernel
theorem d4_23 : decode jdk_42_method_149_code 23 = .ok (.putfield 15, 3) := by decide +kernel
theorem d4_26 : decode jdk_42_method_149_code 26 = .ok (.return_, 1) := by decide +kernel
theorem d6_0 : decode prog_39_method_1_code 0 = .ok (.aload_n 0, 1) := by decide +kernel
theorem d6_1 : decode prog_39_method_1_code 1 = .ok (.invokespecial 1, 3) := by decide +kernel
theorem d6_4 : decode prog_39_method_1_code 4 = .ok (.aload_n 0, 1) := by decide +kernel
theorem d6_5 : decode prog_39_method_1_code 5 = .ok (.lload_n 1, 1) := by decide +kernel
theorem d6_6 : decode prog_39_method_1_code 6 = .ok (.putfield 7, 3) := by decide +kernel
theorem d6_9 : decode prog_39_method_1_code 9 = .ok (.aload_n 0, 1) := by decide +kernel
theorem d6_10 : decode prog_39_method_1_code 10 = .ok (.lload_n 3, 1) := by decide +kernel
theorem d6_11 : decode prog_39_method_1_code 11 = .ok (.putfield 13, 3) := by decide +kernel
theorem d6_14 : decode prog_39_method_1_code 14 = .ok (.aload_n 0, 1) := by decide +kernel
theorem d6_15 : decode prog_39_method_1_code 15 = .ok (.lload 5, 2) := by decide +kernel
theorem d6_17 : decode prog_39_method_1_code 17 = .ok (.putfield 16, 3) := by decide +kernel
theorem d6_20 : decode prog_39_method_1_code 20 = .ok (.aload_n 0, 1) := by decide +kernel
theorem d6_21 : decode prog_39_method_1_code 21 = .ok (.lload 7, 2) := by decide +kernel
theorem d6_23 : decode prog_39_method_1_code 23 = .ok (.putfield 19, 3) := by decide +kernel
theorem d6_26 : decode prog_39_method_1_code 26 = .ok (.return_, 1) := by decide +kernel
theorem d7_0 : decode jdk_30_method_1_code 0 = .ok (.aload_n 0, 1) := by decide +kernel
theorem d7_1 : decode jdk_30_method_1_code 1 = .ok (.invokespecial 1, 3) := by decide +kernel
theorem d7_4 : decode jdk_30_method_1_code 4 = .ok (.return_, 1) := by decide +kernel
theorem d8_0 : decode prog_21_method_1_code 0 = .ok (.aload_n 0, 1) := by decide +kernel
theorem d8_1 : decode prog_21_method_1_code 1 = .ok (.invokespecial 1, 3) := by decide +kernel
theorem d8_4 : decode prog_21_method_1_code 4 = .ok (.aload_n 0, 1) := by decide +kernel
theorem d8_5 : decode prog_21_method_1_code 5 = .ok (.aload_n 1, 1) := by decide +kernel
theorem d8_6 : decode prog_21_method_1_code 6 = .ok (.putfield 7, 3) := by decide +kernel
theorem d8_9 : decode prog_21_method_1_code 9 = .ok (.aload_n 0, 1) := by decide +kernel
theorem d8_10 : decode prog_21_method_1_code 10 = .ok (.aload_n 2, 1) := by decide +kernel
theorem d8_11 : decode prog_21_method_1_code 11 = .ok (.putfield 13, 3) := by decide +kernel
theorem d8_14 : decode prog_21_method_1_code 14 = .ok (.aload_n 0, 1) := by decide +kernel
theorem d8_15 : decode prog_21_method_1_code 15 = .ok (.aload_n 3, 1) := by decide +kernel
theorem d8_16 : decode prog_21_method_1_code 16 = .ok (.putfield 16, 3) := by decide +kernel
theorem d8_19 : decode prog_21_method_1_code 19 = .ok (.return_, 1) := by decide +kernel
theorem d9_0 : decode prog_21_method_5_code 0 = .ok (.aload_n 0, 1) := by decide +kernel
theorem d9_1 : decode prog_21_method_5_code 1 = .ok (.getfield 7, 3) := by decide +kernel
theorem d9_4 : decode prog_21_method_5_code 4 = .ok (.aload_n 1, 1) := by decide +kernel
theorem d9_5 : decode prog_21_method_5_code 5 = .ok (.invokevirtual 110, 3) := by decide +kernel
theorem d9_8 : decode prog_21_method_5_code 8 = .ok (.ifCond .eq 18, 3) := by decide +kernel
theorem d9_11 : decode prog_21_method_5_code 11 = .ok (.aload_n 0, 1) := by decide +kernel
theorem d9_12 : decode prog_21_method_5_code 12 = .ok (.getfield 13, 3) := by decide +kernel
theorem d9_15 : decode prog_21_method_5_code 15 = .ok (.aload_n 2, 1) := by decide +kernel
theorem d9_16 : decode prog_21_method_5_code 16 = .ok (.invokevirtual 110, 3) := by decide +kernel
theorem d9_19 : decode prog_21_method_5_code 19 = .ok (.ifCond .eq 7, 3) := by decide +kernel
theorem d9_22 : decode prog_21_method_5_code 22 = .ok (.iconst 1, 1) := by decide +kernel
theorem d9_23 : decode prog_21_method_5_code 23 = .ok (.goto 4, 3) := by decide +kernel
theorem d9_26 : decode prog_21_method_5_code 26 = .ok (.iconst 0, 1) := by decide +kernel
theorem d9_27 : decode prog_21_method_5_code 27 = .ok (.ireturn, 1) := by decide +kernel
theorem d15_0 : decode jdk_42_method_139_code 0 = .ok (.getstatic 38, 3) := by decide +kernel
theorem d15_3 : decode jdk_42_method_139_code 3 = .ok (.ifCond .eq 23, 3) := by decide +kernel
theorem d15_6 : decode jdk_42_method_139_code 6 = .ok (.iload_n 0, 1) := by decide +kernel
theorem d15_7 : decode jdk_42_method_139_code 7 = .ok (.invokestatic 1015, 3) := by decide +kernel
theorem d15_10 : decode jdk_42_method_139_code 10 = .ok (.ifCond .eq 16, 3) := by decide +kernel
theorem d15_13 : decode jdk_42_method_139_code 13 = .ok (.new 10, 3) := by decide +kernel
theorem d15_16 : decode jdk_42_method_139_code 16 = .ok (.dup, 1) := by decide +kernel
theorem d15_17 : decode jdk_42_method_139_code 17 = .ok (.iload_n 0, 1) := by decide +kernel
theorem d15_18 : decode jdk_42_method_139_code 18 = .ok (.invokestatic 1018, 3) := by decide +kernel
theorem d15_21 : decode jdk_42_method_139_code 21 = .ok (.iconst 0, 1) := by decide +kernel
theorem d15_22 : decode jdk_42_method_139_code 22 = .ok (.invokespecial 209, 3) := by decide +kernel
theorem d15_25 : decode jdk_42_method_139_code 25 = .ok (.areturn, 1) := by decide +kernel
theorem d16_0 : decode jdk_43_method_3_code 0 = .ok (.iload_n 0, 1) := by decide +kernel
theorem d16_1 : decode jdk_43_method_3_code 1 = .ok (.sipush 255, 3) := by decide +kernel
theorem d16_4 : decode jdk_43_method_3_code 4 = .ok (.if_icmp .gt 7, 3) := by decide +kernel
theorem d16_7 : decode jdk_43_method_3_code 7 = .ok (.iconst 1, 1) := by decide +kernel
theorem d16_8 : decode jdk_43_method_3_code 8 = .ok (.goto 4, 3) := by decide +kernel
theorem d16_12 : decode jdk_43_method_3_code 12 = .ok (.ireturn, 1) := by decide +kernel
theorem d17_0 : decode jdk_43_method_46_code 0 = .ok (.iconst 1, 1) := by decide +kernel
theorem d17_1 : decode jdk_43_method_46_code 1 = .ok (.newarray .byte, 2) := by decide +kernel
theorem d17_3 : decode jdk_43_method_46_code 3 = .ok (.dup, 1) := by decide +kernel
theorem d17_4 : decode jdk_43_method_46_code 4 = .ok (.iconst 0, 1) := by decide +kernel
theorem d17_5 : decode jdk_43_method_46_code 5 = .ok (.iload_n 0, 1) := by decide +kernel
theorem d17_6 : decode jdk_43_method_46_code 6 = .ok (.i2b, 1) := by decide +kernel
theorem d17_7 : decode jdk_43_method_46_code 7 = .ok (.bastore, 1) := by decide +kernel
theorem d17_8 : decode jdk_43_method_46_code 8 = .ok (.areturn, 1) := by decide +kernel
theorem d18_0 : decode jdk_42_method_151_code 0 = .ok (.aload_n 0, 1) := by decide +kernel
theorem d18_1 : decode jdk_42_method_151_code 1 = .ok (.invokespecial 1, 3) := by decide +kernel
theorem d18_4 : decode jdk_42_method_151_code 4 = .ok (.aload_n 0, 1) := by decide +kernel
theorem d18_5 : decode jdk_42_method_151_code 5 = .ok (.aload_n 1, 1) := by decide +kernel
theorem d18_6 : decode jdk_42_method_151_code 6 = .ok (.putfield 9, 3) := by decide +kernel
theorem d18_9 : decode jdk_42_method_151_code 9 = .ok (.aload_n 0, 1) := by decide +kernel
theorem d18_10 : decode jdk_42_method_151_code 10 = .ok (.iload_n 2, 1) := by decide +kernel
theorem d18_11 : decode jdk_42_method_151_code 11 = .ok (.putfield 15, 3) := by decide +kernel
theorem d18_14 : decode jdk_42_method_151_code 14 = .ok (.return_, 1) := by decide +kernel
theorem pd0 : parseMethodDescriptor "([CIILjava/lang/Void;)V" = some ⟨[(.array .char), .int, .int, (.object "java/lang/Void")], none⟩ := by decide +kernel
theorem pd1 : parseMethodDescriptor "([C)V" = some ⟨[(.array .char)], none⟩ := by decide +kernel
theorem pd2 : parseMethodDescriptor "(C)Z" = some ⟨[.char], some .boolean⟩ := by decide +kernel
theorem pd3 : parseMethodDescriptor "(C)[B" = some ⟨[.char], some (.array .byte)⟩ := by decide +kernel
theorem pd4 : parseMethodDescriptor "([BB)V" = some ⟨[(.array .byte), .byte], none⟩ := by decide +kernel
theorem pd5 : parseMethodDescriptor "(C)Ljava/lang/String;" = some ⟨[.char], some (.object "java/lang/String")⟩ := by decide +kernel
theorem pd6 : parseMethodDescriptor "(ICCICC)Z" = some ⟨[.int, .char, .char, .int, .char, .char], some .boolean⟩ := by decide +kernel
theorem pd7 : parseMethodDescriptor "(ICC)Ljava/lang/String;" = some ⟨[.int, .char, .char], some (.object "java/lang/String")⟩ := by decide +kernel
theorem pd8 : parseMethodDescriptor "()V" = some ⟨[], none⟩ := by decide +kernel
theorem pd9 : parseMethodDescriptor "(JJJJ)V" = some ⟨[.long, .long, .long, .long], none⟩ := by decide +kernel
theorem pd10 : parseMethodDescriptor "(Ljava/lang/String;Ljava/lang/String;Lcom/example/plebiscite/plebiscite/core/Multilog$Point;)V" = some ⟨[(.object "java/lang/String"), (.object "java/lang/String"), (.object "com/example/plebiscite/plebiscite/core/Multilog$Point")], none⟩ := by decide +kernel
theorem pd11 : parseMethodDescriptor "(Ljava/lang/Object;)Z" = some ⟨[(.object "java/lang/Object")], some .boolean⟩ := by decide +kernel
theorem pd12 : parseMethodDescriptor "(Ljava/lang/String;Ljava/lang/String;)Z" = some ⟨[(.object "java/lang/String"), (.object "java/lang/String")], some .boolean⟩ := by decide +kernel
theorem pn0 : plainName "java/lang/String" = true := by first | (simp [plainName, overriddenIn]; done) | decide +kernel
theorem pn1 : plainName "java/lang/StringLatin1" = true := by first | (simp [plainName, overriddenIn]; done) | decide +kernel
theorem pn2 : plainName "com/example/plebiscite/plebiscite/core/CursorGivenByPinLaw" = true := by first | (simp [plainName, overriddenIn]; done) | decide +kernel
theorem pn3 : plainName "java/lang/Record" = true := by first | (simp [plainName, overriddenIn]; done) | decide +kernel
theorem pn4 : plainName "com/example/plebiscite/plebiscite/core/Multilog$Point" = true := by first | (simp [plainName, overriddenIn]; done) | decide +kernel
theorem pn5 : plainName "com/example/plebiscite/plebiscite/core/Cursor" = true := by first | (simp [plainName, overriddenIn]; done) | decide +kernel
theorem rm1 (l : Launch) (Z : State) (a0 : Array Value) (hw : ∀ d ∈ tables_1, d.before a0 Z = true) (a1 a2 : Addr) (h0 : Heap) (O0 : Old Z Z.heap.size h0) (E_a1 : Exa Z h0 a1 "java/lang/String") (F_a1_value : Fld Z h0 a1 "java/lang/String" "value" "[B" .null) (g_a1 : Z.heap.size ≤ a1) (F_a1_coder : Fld Z h0 a1 "java/lang/String" "coder" "B" (.int 0)) :
    CtrW l Z consts_1 (⟨"java/lang/String", "<init>", "([CIILjava/lang/Void;)V"⟩ : MethodName) jdk_42_method_149_code 6 none [] (⟨1, 4, 8, 12⟩ : Room) #[(.ref a1), (.ref a2), (.int 0), (.int 0), .null] h0 [a1] (fun v h => ∃ r1 : Addr, ∃ r2 : ClassId, Fld Z h a1 "java/lang/String" "value" "[B" (.ref r1) ∧ Fld Z h a1 "java/lang/String" "coder" "B" (.int 0) ∧ Arv Z h r1 r2 .byte (0 : Int32) [] (.int 0) ∧ v = none) := by
  refine CtrW.intro (L0 := #[.val (.ref a1), .val (.ref a2), .val (.int 0), .val (.int 0), .val .null, .unset]) (plainFor_of_name pn0) O0 (own_entry rfl) ?_
  intro p e s m below meth c T0 V0 hy hml hret hlk hnm W0
  refine o_aloadN W0 (pc' := 1) (hb hy d4_0) rfl rfl rfl ?_
  refine o_initO W0 (w21 hw) (w22 hw) (w23 hw) (by rw [hml]; rfl) (pc' := 4) (hb hy d4_1) rfl (by decide) 0 (by exact Nat.le_of_eq rfl) (by decide) ?_
  intro T1 W1
  refine o_iloadN W1 (pc' := 5) (hb hy d4_4) rfl rfl ?_
  refine o_ifN W1 (pc' := 8) (hb hy d4_5) (XT.i0_ne_f (by decide)) rfl ?_
  refine o_aloadN W1 (pc' := 9) (hb hy d4_8) rfl rfl rfl ?_
  refine o_ldcR W1 (w24 hw) (own_wS hw) (own_EL hw) (by simp [consts_1]) (pc' := 11) (hb hy d4_9) rfl (n := 0) (by decide) (by decide) (cells' := 2) (slots' := 4) rfl rfl (by decide) (by decide) (vs := []) (z := (0 : Int32)) ⟨by decide, by decide⟩ (by decide) (by decide) ?_
  intro s2 T2 h2 V2 t2 k2 W2 E2 C2 X2 Fc2 Fv2 A2 ns2
  refine o_getF W2 (w30 hw) Via.refl Fv2 (pc' := 14) (hb hy d4_11) rfl ?_
  intro T3 W3
  have c4 := (E_a1.ext E2)
  have c5 := (F_a1_value.ext E2)
  have sf6 := own_safeS (EL := consts_1) W3.al c4 c5
  refine o_putF W3 (w30 hw) Via.refl c5 c4 (Or.inr ⟨(w26 hw), rfl, hnm⟩) (w11 hw) (ty := (.array .byte)) (v' := (.ref t2)) (by decide) rfl rfl g_a1 (Or.inl (List.mem_of_getElem? (i := 0) rfl)) (fun _ R => IW.wr R sf6 W3.inv) (pc' := 17) (hb hy d4_14) rfl ?_
  intro T7 h7 lo7 W7 R7
  have F7 := c5.same R7
  refine o_aloadN W7 (pc' := 18) (hb hy d4_17) rfl rfl rfl ?_
  refine o_ldcR W7 (w24 hw) (own_wS hw) (own_EL hw) (by simp [consts_1]) (pc' := 20) (hb hy d4_18) rfl (n := 0) (by decide) (by decide) (cells' := 4) (slots' := 8) rfl rfl (by decide) (by decide) (vs := []) (z := (0 : Int32)) ⟨by decide, by decide⟩ (by decide) (by decide) ?_
  intro s8 T8 h8 V8 t8 k8 W8 E8 C8 X8 Fc8 Fv8 A8 ns8
  refine o_getF W8 (w31 hw) Via.refl Fc8 (pc' := 23) (hb hy d4_20) rfl ?_
  intro T9 W9
  have c10 := ((c4.wr R7).ext E8)
  have c11 := (((F_a1_coder.ext E2).other R7 (Or.inr (slot_ne (Or.inr (w27 hw)) (Or.inr (w26 hw)) (by decide) (t := .byte) (t' := (.array .byte)) (by decide) (by decide)))).ext E8)
  have c12 := (c4.wr R7)
  have c13 := (CHr.safe C8 c12.lt (Safe.wr R7 sf6 W3.inv.2.1 sf6))
  refine o_putF W9 (w31 hw) Via.refl c11 c10 (Or.inr ⟨(w27 hw), rfl, hnm⟩) (w11 hw) (ty := .byte) (v' := (.int 0)) (by decide) rfl (by decide) g_a1 (Or.inl (List.mem_of_getElem? (i := 0) rfl)) (fun _ R => IW.wr R c13 W9.inv) (pc' := 26) (hb hy d4_23) rfl ?_
  intro T14 h14 lo14 W14 R14
  have F14 := c11.same R14
  have c15 := ((F7.ext E8).other R14 (Or.inr (slot_ne (Or.inr (w26 hw)) (Or.inr (w27 hw)) (by decide) (t := (.array .byte)) (t' := .byte) (by decide) (by decide))))
  have c16 := (c10.wr R14)
  have c17 := (((A2.other R7 (Ne.symm (ns2 _ sf6).2)).ext E8).other R14 (Ne.symm (ns2 _ sf6).2))
  exact o_ret0W W14 (own_EL hw) hlk hret (hb hy d4_26) (by decide) (by decide) ⟨t2, k2, c15, F14, c17, rfl⟩
theorem rm2 (l : Launch) (Z : State) (a0 : Array Value) (hw : ∀ d ∈ tables_1, d.before a0 Z = true) (a1 a2 : Addr) (k_a2 : ClassId) (h0 : Heap) (O0 : Old Z Z.heap.size h0) (V_a2 : Arv Z h0 a2 k_a2 .char (0 : Int32) [] (.int 0)) (E_a1 : Exa Z h0 a1 "java/lang/String") (F_a1_value : Fld Z h0 a1 "java/lang/String" "value" "[B" .null) (F_a1_coder : Fld Z h0 a1 "java/lang/String" "coder" "B" (.int 0)) (g_a1 : Z.heap.size ≤ a1) :
    CtrW l Z consts_1 (⟨"java/lang/String", "<init>", "([C)V"⟩ : MethodName) jdk_42_method_3_code 2 none [] (⟨2, 4, 8, 29⟩ : Room) #[(.ref a1), (.ref a2)] h0 [a1] (fun v h => ∃ r1 : Addr, ∃ r2 : ClassId, Fld Z h a1 "java/lang/String" "value" "[B" (.ref r1) ∧ Fld Z h a1 "java/lang/String" "coder" "B" (.int 0) ∧ Arv Z h r1 r2 .byte (0 : Int32) [] (.int 0) ∧ v = none) := by
  refine CtrW.intro (L0 := #[.val (.ref a1), .val (.ref a2)]) (plainFor_of_name pn0) O0 (own_entry rfl) ?_
  intro p e s m below meth c T0 V0 hy hml hret hlk hnm W0
  refine o_aloadN W0 (pc' := 1) (hb hy d3_0) rfl rfl rfl ?_
  refine o_aloadN W0 (pc' := 2) (hb hy d3_1) rfl rfl rfl ?_
  refine o_iconst W0 (v := 0) (pc' := 3) (hb hy d3_2) rfl rfl ?_
  refine o_aloadN W0 (pc' := 4) (hb hy d3_3) rfl rfl rfl ?_
  refine o_len W0 V_a2 (pc' := 5) (hb hy d3_4) rfl ?_
  refine o_aconstNull W0 (pc' := 6) (hb hy d3_5) rfl ?_
  refine o_specialW W0 (y := (⟨"java/lang/String", "<init>", "([CIILjava/lang/Void;)V"⟩ : MethodName)) rfl (w17 hw) (w18 hw) (w20 hw) (by decide) (a := a1) (argsL := [(.ref a2), (.int 0), (.int 0), .null]) (CtrW.back (Wd := 0) W0 (rm1 l Z a0 hw a1 a2 h0 W0.old E_a1 F_a1_value g_a1 F_a1_coder) (w20 hw) (w12 hw) (by decide) (by decide) (own_EL hw)) (by rw [hml]; rfl) (lenOf pd0 rfl) (S := []) rfl (by exact Nat.le_of_eq rfl) (pc' := 9) (hb hy d3_6) rfl (cells' := 4) (slots' := 8) rfl rfl (by decide) (by decide) (wy := [a1]) (fun _ _ _ q => ⟨q.1, q.2.1⟩) (allS ⟨g_a1, (Or.inl (List.mem_of_getElem? (i := 0) rfl))⟩ all0)  ?_
  intro v1 T1 h1 V1 lo1 W1 K1 C1 q1
  obtain ⟨r1_1, r2_1, P1_0, P1_1, P1_2, rfl⟩ := q1.2.2
  show Gl _ _ _ _ _ _ _ _ []
  have c2 := (E_a1.keep K1)
  exact o_ret0W W1 (own_EL hw) hlk hret (hb hy d3_9) (by decide) (by decide) ⟨r1_1, r2_1, P1_0, P1_1, P1_2, rfl⟩
theorem rm3 (l : Launch) (Z : State) (a0 : Array Value) (hw : ∀ d ∈ tables_1, d.before a0 Z = true) (x1 : Int32) (h0 : Heap) (O0 : Old Z Z.heap.size h0) (hu1 : own_b x1) :
    CtrN l Z (⟨"java/lang/StringLatin1", "canEncode", "(C)Z"⟩ : MethodName) jdk_43_method_3_code 1 (some .boolean) [] (⟨0, 0, 0, 0⟩ : Room) #[(.int x1)] h0 [] (fun v h => v = some (.int 1)) := by
  refine CtrN.intro (L0 := #[.val (.int x1)]) (plainFor_of_name pn1) O0 (own_entry rfl) ?_
  intro p e s m below meth c T0 hy hml hret hlk hnm W0
  refine o_iloadN W0 (pc' := 1) (hb hy d16_0) rfl rfl ?_
  refine o_sipush W0 (v := 255) (pc' := 4) (hb hy d16_1) (by decide) rfl ?_
  refine o_icmpN W0 (pc' := 7) (hb hy d16_4) (XT.ii_gt_f hu1.2) rfl ?_
  refine o_iconst W0 (v := 1) (pc' := 8) (hb hy d16_7) rfl rfl ?_
  refine o_goto W0 (pc' := 12) (hb hy d16_8) (by decide) rfl ?_
  exact o_retN W0 hlk (t := .boolean) hret (by simp) (z' := (1 : Int32)) (by decide) (hb hy d16_12) (by decide) (by decide) rfl
theorem rm4 (l : Launch) (Z : State) (a0 : Array Value) (hw : ∀ d ∈ tables_1, d.before a0 Z = true) (x1 : Int32) (h0 : Heap) (O0 : Old Z Z.heap.size h0) :
    CtrN l Z (⟨"java/lang/StringLatin1", "toBytes", "(C)[B"⟩ : MethodName) jdk_43_method_46_code 1 (some (.array .byte)) [] (⟨0, 1, 1, 0⟩ : Room) #[(.int x1)] h0 [] (fun v h => ∃ r1 : Addr, ∃ r2 : ClassId, h0.size ≤ r1 ∧ Arv Z h r1 r2 .byte (1 : Int32) [(.int (x1.toInt8.toInt32))] (.int 0) ∧ v = some (.ref r1)) := by
  refine CtrN.intro (L0 := #[.val (.int x1)]) (plainFor_of_name pn1) O0 (own_entry rfl) ?_
  intro p e s m below meth c T0 hy hml hret hlk hnm W0
  refine o_iconst W0 (v := 1) (pc' := 1) (hb hy d17_0) rfl rfl ?_
  refine o_newP W0 (aty := .byte) (w25 hw) (fun _ _ => trivial) (by decide) (cap := 1) (by decide) (by decide) (pc' := 3) (hb hy d17_1) rfl (cells' := 1) (slots' := 1) rfl rfl (by decide) (by decide) (vs := [(.int 0)]) (dv := (.int 0)) rfl rfl ?_
  intro b1 T1 h1 k1 W1 E1 ge1 gz1 gb1 V1
  refine o_dup W1 (pc' := 4) (hb hy d17_3) rfl rfl ?_
  refine o_iconst W1 (v := 0) (pc' := 5) (hb hy d17_4) rfl rfl ?_
  refine o_iloadN W1 (pc' := 6) (hb hy d17_5) rfl rfl ?_
  refine o_i2b W1 (v := (x1.toInt8.toInt32)) (pc' := 7) (hb hy d17_6) rfl rfl ?_
  refine o_stB W1 V1 (i := 0) (x' := (x1.toInt8.toInt32)) (by decide) (by decide) (by decide) (Nat.lt_of_sub_eq_succ rfl) (own_b8 _) (vs' := [(.int (x1.toInt8.toInt32))]) rfl gz1 (Or.inr gb1) (fun _ _ => trivial) (pc' := 8) (hb hy d17_7) rfl ?_
  intro T2 h2 lo2 W2 R2 V2
  exact o_retA W2 hlk (v := (.ref b1)) hret rfl rfl (hb hy d17_8) (by decide) (by decide) ⟨b1, k1, gb1, V2, rfl⟩
theorem rm5 (l : Launch) (Z : State) (a0 : Array Value) (hw : ∀ d ∈ tables_1, d.before a0 Z = true) (a1 a2 : Addr) (h0 : Heap) (O0 : Old Z Z.heap.size h0) (E_a1 : Exa Z h0 a1 "java/lang/String") (F_a1_value : Fld Z h0 a1 "java/lang/String" "value" "[B" .null) (g_a1 : Z.heap.size ≤ a1) (F_a1_coder : Fld Z h0 a1 "java/lang/String" "coder" "B" (.int 0)) :
    CtrN l Z (⟨"java/lang/String", "<init>", "([BB)V"⟩ : MethodName) jdk_42_method_151_code 3 none [] (⟨1, 0, 0, 12⟩ : Room) #[(.ref a1), (.ref a2), (.int 0)] h0 [a1] (fun v h => Fld Z h a1 "java/lang/String" "value" "[B" (.ref a2) ∧ Fld Z h a1 "java/lang/String" "coder" "B" (.int 0) ∧ v = none) := by
  refine CtrN.intro (L0 := #[.val (.ref a1), .val (.ref a2), .val (.int 0)]) (plainFor_of_name pn0) O0 (own_entry rfl) ?_
  intro p e s m below meth c T0 hy hml hret hlk hnm W0
  refine o_aloadN W0 (pc' := 1) (hb hy d18_0) rfl rfl rfl ?_
  refine o_initO W0 (w21 hw) (w22 hw) (w23 hw) (by rw [hml]; rfl) (pc' := 4) (hb hy d18_1) rfl (by decide) 0 (by exact Nat.le_of_eq rfl) (by decide) ?_
  intro T1 W1
  refine o_aloadN W1 (pc' := 5) (hb hy d18_4) rfl rfl rfl ?_
  refine o_aloadN W1 (pc' := 6) (hb hy d18_5) rfl rfl rfl ?_
  refine o_putF W1 (w30 hw) Via.refl F_a1_value E_a1 (Or.inr ⟨(w26 hw), rfl, hnm⟩) (w11 hw) (ty := (.array .byte)) (v' := (.ref a2)) (by decide) rfl rfl g_a1 (Or.inl (List.mem_of_getElem? (i := 0) rfl)) (fun _ _ => trivial) (pc' := 9) (hb hy d18_6) rfl ?_
  intro T2 h2 lo2 W2 R2
  have F2 := F_a1_value.same R2
  refine o_aloadN W2 (pc' := 10) (hb hy d18_9) rfl rfl rfl ?_
  refine o_iloadN W2 (pc' := 11) (hb hy d18_10) rfl rfl ?_
  have c3 := (E_a1.wr R2)
  have c4 := (F_a1_coder.other R2 (Or.inr (slot_ne (Or.inr (w27 hw)) (Or.inr (w26 hw)) (by decide) (t := .byte) (t' := (.array .byte)) (by decide) (by decide))))
  refine o_putF W2 (w31 hw) Via.refl c4 c3 (Or.inr ⟨(w27 hw), rfl, hnm⟩) (w11 hw) (ty := .byte) (v' := (.int 0)) (by decide) rfl (by decide) g_a1 (Or.inl (List.mem_of_getElem? (i := 0) rfl)) (fun _ _ => trivial) (pc' := 14) (hb hy d18_11) rfl ?_
  intro T5 h5 lo5 W5 R5
  have F5 := c4.same R5
  have c6 := (F2.other R5 (Or.inr (slot_ne (Or.inr (w26 hw)) (Or.inr (w27 hw)) (by decide) (t := (.array .byte)) (t' := .byte) (by decide) (by decide))))
  have c7 := (c3.wr R5)
  exact o_ret0 W5 hlk hret (hb hy d18_14) (by decide) (by decide) ⟨c6, F5, rfl⟩
theorem rm6 (l : Launch) (Z : State) (a0 : Array Value) (hw : ∀ d ∈ tables_1, d.before a0 Z = true) (gCS x1 : Int32) (h0 : Heap) (O0 : Old Z Z.heap.size h0) (SgCS : Sta Z Z.heap "java/lang/String" "COMPACT_STRINGS" "Z" (.int gCS)) (NgCS : ¬ (gCS = (0 : Int32))) (hu2 : own_b x1) :
    CtrN l Z (⟨"java/lang/String", "valueOf", "(C)Ljava/lang/String;"⟩ : MethodName) jdk_42_method_139_code 1 (some (.object "java/lang/String")) [] (⟨2, 2, 5, 27⟩ : Room) #[(.int x1)] h0 [] (fun v h => ∃ r1 : Addr, ∃ r2 : Addr, ∃ r3 : ClassId, h0.size ≤ r1 ∧ h0.size ≤ r2 ∧ Exa Z h r1 "java/lang/String" ∧ Fld Z h r1 "java/lang/String" "value" "[B" (.ref r2) ∧ Fld Z h r1 "java/lang/String" "coder" "B" (.int 0) ∧ Arv Z h r2 r3 .byte (1 : Int32) [(.int (x1.toInt8.toInt32))] (.int 0) ∧ v = some (.ref r1)) := by
  refine CtrN.intro (L0 := #[.val (.int x1)]) (plainFor_of_name pn0) O0 (own_entry rfl) ?_
  intro p e s m below meth c T0 hy hml hret hlk hnm W0
  refine o_getS W0 (w73 hw) Via.refl (SgCS.ext W0.ox) (pc' := 3) (hb hy d15_0) rfl ?_
  intro T1 W1
  refine o_ifN W1 (pc' := 6) (hb hy d15_3) (XT.i0_eq_f NgCS) rfl ?_
  refine o_iloadN W1 (pc' := 7) (hb hy d15_6) rfl rfl ?_
  refine o_static W1 (y := (⟨"java/lang/StringLatin1", "canEncode", "(C)Z"⟩ : MethodName)) (w91 hw) (w92 hw) (w76 hw) (w93 hw) (by decide) (argsL := [(.int x1)]) (CtrN.back (Wd := 0) W1 (rm3 l Z a0 hw x1 h0 W1.old hu2) (w93 hw) (w76 hw) (by decide) (by decide)) (by rw [hml]; rfl) (lenOf pd2 rfl) (S := []) rfl (by exact Nat.le_of_eq rfl) (pc' := 10) (hb hy d15_7) rfl (cells' := 0) (slots' := 0) rfl rfl (by decide) (by decide) (wy := []) (fun _ _ _ q => ⟨q.1, q.2.1⟩) all0 (fun _ _ => trivial) ?_
  intro v3 T3 h3 lo3 W3 K3 q3
  obtain rfl := q3.2.2
  show Gl _ _ _ _ _ _ _ _ [(.int 1)]
  refine o_ifN W3 (pc' := 13) (hb hy d15_10) (XT.i0_eq_f (by decide)) rfl ?_
  refine o_new W3 (w72 hw) (w11 hw) (w12 hw) (fun _ _ => trivial) (pc' := 16) (hb hy d15_13) rfl (cells' := 1) (slots' := 4) rfl rfl (by decide) (by decide) ?_
  intro b4 T4 h4 W4 E4 ge4 gz4 gb4 A4 D4
  have Fb4_value : Fld Z h4 b4 "java/lang/String" "value" "[B" .null := D4 (Or.inr (w26 hw)) (ty := (.array .byte)) (by decide)
  have Fb4_coder : Fld Z h4 b4 "java/lang/String" "coder" "B" (.int 0) := D4 (Or.inr (w27 hw)) (ty := .byte) (by decide)
  refine o_dup W4 (pc' := 17) (hb hy d15_16) rfl rfl ?_
  refine o_iloadN W4 (pc' := 18) (hb hy d15_17) rfl rfl ?_
  refine o_static W4 (y := (⟨"java/lang/StringLatin1", "toBytes", "(C)[B"⟩ : MethodName)) (w94 hw) (w95 hw) (w76 hw) (w96 hw) (by decide) (argsL := [(.int x1)]) (CtrN.back (Wd := 2) W4 (rm4 l Z a0 hw x1 h4 W4.old ) (w96 hw) (w76 hw) (by decide) (by decide)) (by rw [hml]; rfl) (lenOf pd3 rfl) (S := [(.ref b4), (.ref b4)]) rfl (by exact Nat.le_of_eq rfl) (pc' := 21) (hb hy d15_18) rfl (cells' := 2) (slots' := 5) rfl rfl (by decide) (by decide) (wy := []) (fun _ _ _ q => ⟨q.1, q.2.1⟩) all0 (fun _ _ => trivial) ?_
  intro v5 T5 h5 lo5 W5 K5 q5
  obtain ⟨r1_5, r2_5, P5_0, P5_1, rfl⟩ := q5.2.2
  show Gl _ _ _ _ _ _ _ _ [(.ref r1_5), (.ref b4), (.ref b4)]
  refine o_iconst W5 (v := 0) (pc' := 22) (hb hy d15_21) rfl rfl ?_
  have c6 := (Fb4_value.keep K5 nin0)
  have c7 := (Fb4_coder.keep K5 nin0)
  have c8 := (A4.keep K5)
  refine o_special W5 (y := (⟨"java/lang/String", "<init>", "([BB)V"⟩ : MethodName)) rfl (w97 hw) (w98 hw) (w99 hw) (by decide) (a := b4) (argsL := [(.ref r1_5), (.int 0)]) (CtrN.back (Wd := 1) W5 (rm5 l Z a0 hw b4 r1_5 h5 W5.old c8 c6 gz4 c7) (w99 hw) (w12 hw) (by decide) (by decide)) (by rw [hml]; rfl) (lenOf pd4 rfl) (S := [(.ref b4)]) rfl (by exact Nat.le_of_eq rfl) (pc' := 25) (hb hy d15_22) rfl (cells' := 2) (slots' := 5) rfl rfl (by decide) (by decide) (wy := [b4]) (fun _ _ _ q => ⟨q.1, q.2.1⟩) (allS ⟨gz4, (Or.inr gb4)⟩ all0) (fun _ _ => trivial) ?_
  intro v9 T9 h9 lo9 W9 K9 q9
  obtain ⟨P9_0, P9_1, rfl⟩ := q9.2.2
  show Gl _ _ _ _ _ _ _ _ [(.ref b4)]
  have c10 := (c8.keep K9)
  have c11 := (P5_1.keep K9 (ninS (own_ne' A4.lt P5_0) nin0))
  exact o_retA W9 hlk (v := (.ref b4)) hret rfl rfl (hb hy d15_25) (by decide) (by decide) ⟨b4, r1_5, r2_5, gb4, (Nat.le_trans W4.keep.1 P5_0), c10, P9_0, P9_1, c11, rfl⟩
theorem rm7 (l : Launch) (Z : State) (a0 : Array Value) (hw : ∀ d ∈ tables_1, d.before a0 Z = true) (gCS x1 x2 x3 : Int32) (h0 : Heap) (O0 : Old Z Z.heap.size h0) (SgCS : Sta Z Z.heap "java/lang/String" "COMPACT_STRINGS" "Z" (.int gCS)) (NgCS : ¬ (gCS = (0 : Int32))) (hb2 : own_b x2) (hb3 : own_b x3) :
    CtrW l Z consts_1 (⟨"com/example/plebiscite/plebiscite/core/CursorGivenByPinLaw", "str", "(ICC)Ljava/lang/String;"⟩ : MethodName) method_2_code 4 (some (.object "java/lang/String")) [] (⟨4, 6, 12, 66⟩ : Room) #[(.int x1), (.int x2), (.int x3)] h0 [] (fun v h => ∃ r1 : Addr, ∃ r2 : Addr, ∃ r3 : ClassId, h0.size ≤ r1 ∧ Exa Z h r1 "java/lang/String" ∧ Fld Z h r1 "java/lang/String" "coder" "B" (.int 0) ∧ Fld Z h r1 "java/lang/String" "value" "[B" (.ref r2) ∧ Arv Z h r2 r3 .byte (Int32.ofNat ((own_cs2 x1 x2 x3)).length) (((own_cs2 x1 x2 x3)).map fun c => Value.int (StrChars.lo8 c)) (.int 0) ∧ v = some (.ref r1)) := by
  refine CtrW.intro (L0 := #[.val (.int x1), .val (.int x2), .val (.int x3), .unset]) (plainFor_of_name pn2) O0 (own_entry rfl) ?_
  intro p e s m below meth c T0 V0 hy hml hret hlk hnm W0
  refine o_iloadN W0 (pc' := 1) (hb hy d2_0) rfl rfl ?_
  by_cases hc0 : x1 = (0 : Int32)
  · refine o_ifN W0 (pc' := 4) (hb hy d2_1) (XT.i0_ne_f hc0) rfl ?_
    refine o_new W0 (w10 hw) (w11 hw) (w12 hw) (fun _ E => IW.ext E W0.inv) (pc' := 7) (hb hy d2_4) rfl (cells' := 1) (slots' := 4) rfl rfl (by decide) (by decide) ?_
    intro b1 T1 h1 W1 E1 ge1 gz1 gb1 A1 D1
    have Fb1_value : Fld Z h1 b1 "java/lang/String" "value" "[B" .null := D1 (Or.inr (w26 hw)) (ty := (.array .byte)) (by decide)
    have Fb1_coder : Fld Z h1 b1 "java/lang/String" "coder" "B" (.int 0) := D1 (Or.inr (w27 hw)) (ty := .byte) (by decide)
    refine o_dup W1 (pc' := 8) (hb hy d2_7) rfl rfl ?_
    refine o_iconst W1 (v := 0) (pc' := 9) (hb hy d2_8) rfl rfl ?_
    refine o_newP W1 (aty := .char) (w13 hw) (fun _ E => IW.ext E W1.inv) (by decide) (cap := 0) (by decide) (by decide) (pc' := 11) (hb hy d2_9) rfl (cells' := 2) (slots' := 4) rfl rfl (by decide) (by decide) (vs := []) (dv := (.int 0)) rfl rfl ?_
    intro b2 T2 h2 k2 W2 E2 ge2 gz2 gb2 V2
    have c3 := (Fb1_value.ext E2)
    have c4 := (Fb1_coder.ext E2)
    have c5 := (A1.ext E2)
    refine o_specialW W2 (y := (⟨"java/lang/String", "<init>", "([C)V"⟩ : MethodName)) rfl (w14 hw) (w15 hw) (w16 hw) (by decide) (a := b1) (argsL := [(.ref b2)]) (CtrW.back (Wd := 1) W2 (rm2 l Z a0 hw b1 b2 k2 h2 W2.old V2 c5 c3 c4 gz1) (w16 hw) (w12 hw) (by decide) (by decide) (own_EL hw)) (by rw [hml]; rfl) (lenOf pd1 rfl) (S := [(.ref b1)]) rfl (by exact Nat.le_of_eq rfl) (pc' := 14) (hb hy d2_11) rfl (cells' := 6) (slots' := 12) rfl rfl (by decide) (by decide) (wy := [b1]) (fun _ _ _ q => ⟨q.1, q.2.1⟩) (allS ⟨gz1, (Or.inr gb1)⟩ all0)  ?_
    intro v6 T6 h6 V6 lo6 W6 K6 C6 q6
    obtain ⟨r1_6, r2_6, P6_0, P6_1, P6_2, rfl⟩ := q6.2.2
    show Gl _ _ _ _ _ _ _ _ [(.ref b1)]
    have c7 := (c5.keep K6)
    exact o_retAW W6 (own_EL hw) hlk (v := (.ref b1)) hret rfl rfl (hb hy d2_14) (by decide) (by decide) ⟨b1, r1_6, r2_6, gb1, c7, P6_1, P6_0, by rw [(own_cs2_0 hc0)]; exact P6_2, rfl⟩
  · refine o_ifY W0 (pc' := 15) (hb hy d2_1) (XT.i0_ne_t hc0) (by decide) rfl ?_
    refine o_iloadN W0 (pc' := 16) (hb hy d2_15) rfl rfl ?_
    refine o_iconst W0 (v := 1) (pc' := 17) (hb hy d2_16) rfl rfl ?_
    by_cases hc1 : x1 = (1 : Int32)
    · refine o_icmpN W0 (pc' := 20) (hb hy d2_17) (XT.ii_ne_f hc1) rfl ?_
      refine o_iloadN W0 (pc' := 21) (hb hy d2_20) rfl rfl ?_
      refine o_static W0 (y := (⟨"java/lang/String", "valueOf", "(C)Ljava/lang/String;"⟩ : MethodName)) (w88 hw) (w89 hw) (w12 hw) (w90 hw) (by decide) (argsL := [(.int x2)]) (CtrN.back (Wd := 0) W0 (rm6 l Z a0 hw gCS x2 h0 W0.old SgCS NgCS hb2) (w90 hw) (w12 hw) (by decide) (by decide)) (by rw [hml]; rfl) (lenOf pd5 rfl) (S := []) rfl (by exact Nat.le_of_eq rfl) (pc' := 24) (hb hy d2_21) rfl (cells' := 2) (slots' := 5) rfl rfl (by decide) (by decide) (wy := []) (fun _ _ _ q => ⟨q.1, q.2.1⟩) all0 (fun _ K => IW.keep K sf0 W0.inv) ?_
      intro v8 T8 h8 lo8 W8 K8 q8
      obtain ⟨r1_8, r2_8, r3_8, P8_0, P8_1, P8_2, P8_3, P8_4, P8_5, rfl⟩ := q8.2.2
      show Gl _ _ _ _ _ _ _ _ [(.ref r1_8)]
      have B9 : Arv Z h8 r2_8 r3_8 .byte (1 : Int32) [(.int (StrChars.lo8 x2))] (.int 0) := P8_5
      exact o_retAW W8 (own_EL hw) hlk (v := (.ref r1_8)) hret rfl rfl (hb hy d2_24) (by decide) (by decide) ⟨r1_8, r2_8, r3_8, (Nat.le_trans W0.keep.1 P8_0), P8_2, P8_4, P8_3, by rw [(own_cs2_1 hc1)]; exact B9, rfl⟩
    · refine o_icmpY W0 (pc' := 25) (hb hy d2_17) (XT.ii_ne_t hc1) (by decide) rfl ?_
      refine o_iconst W0 (v := 2) (pc' := 26) (hb hy d2_25) rfl rfl ?_
      refine o_newP W0 (aty := .char) (w13 hw) (fun _ E => IW.ext E W0.inv) (by decide) (cap := 2) (by decide) (by decide) (pc' := 28) (hb hy d2_26) rfl (cells' := 1) (slots' := 2) rfl rfl (by decide) (by decide) (vs := [(.int 0), (.int 0)]) (dv := (.int 0)) rfl rfl ?_
      intro b10 T10 h10 k10 W10 E10 ge10 gz10 gb10 V10
      refine o_astoreN W10 (L' := #[.val (.int x1), .val (.int x2), .val (.int x3), .val (.ref b10)]) (pc' := 29) (hb hy d2_28) rfl rfl rfl ?_
      refine o_aloadN W10 (pc' := 30) (hb hy d2_29) rfl rfl rfl ?_
      refine o_iconst W10 (v := 0) (pc' := 31) (hb hy d2_30) rfl rfl ?_
      refine o_iloadN W10 (pc' := 32) (hb hy d2_31) rfl rfl ?_
      refine o_stC W10 V10 (i := 0) (x' := x2) (by decide) (by decide) (by decide) (Nat.lt_of_sub_eq_succ rfl) (own_i2c hb2) (vs' := [(.int x2), (.int 0)]) rfl gz10 (Or.inr gb10) (fun _ R => IW.wr R (Safe.arv W10.al V10 (by decide)) W10.inv) (pc' := 33) (hb hy d2_32) rfl ?_
      intro T11 h11 lo11 W11 R11 V11
      refine o_aloadN W11 (pc' := 34) (hb hy d2_33) rfl rfl rfl ?_
      refine o_iconst W11 (v := 1) (pc' := 35) (hb hy d2_34) rfl rfl ?_
      refine o_iloadN W11 (pc' := 36) (hb hy d2_35) rfl rfl ?_
      refine o_stC W11 V11 (i := 1) (x' := x3) (by decide) (by decide) (by decide) (Nat.lt_of_sub_eq_succ rfl) (own_i2c hb3) (vs' := [(.int x2), (.int x3)]) rfl gz10 (Or.inr gb10) (fun _ R => IW.wr R (Safe.arv W11.al V11 (by decide)) W11.inv) (pc' := 37) (hb hy d2_36) rfl ?_
      intro T12 h12 lo12 W12 R12 V12
      refine o_new W12 (w10 hw) (w11 hw) (w12 hw) (fun _ E => IW.ext E W12.inv) (pc' := 40) (hb hy d2_37) rfl (cells' := 2) (slots' := 6) rfl rfl (by decide) (by decide) ?_
      intro b13 T13 h13 W13 E13 ge13 gz13 gb13 A13 D13
      have Fb13_value : Fld Z h13 b13 "java/lang/String" "value" "[B" .null := D13 (Or.inr (w26 hw)) (ty := (.array .byte)) (by decide)
      have Fb13_coder : Fld Z h13 b13 "java/lang/String" "coder" "B" (.int 0) := D13 (Or.inr (w27 hw)) (ty := .byte) (by decide)
      refine o_dup W13 (pc' := 41) (hb hy d2_40) rfl rfl ?_
      refine o_aloadN W13 (pc' := 42) (hb hy d2_41) rfl rfl rfl ?_
      have c14 := (V12.ext E13)
      have ok15 : own_ok [x2, x3] := ⟨by simp only [List.mem_cons, List.not_mem_nil, or_false, forall_eq_or_imp, forall_eq, false_imp_iff, implies_true]; exact ⟨hb2, hb3⟩, Nat.le_of_ble_eq_true rfl⟩
      have sf16 := own_safeS (EL := consts_1) W13.al A13 Fb13_value
      refine o_special W13 (y := (⟨"java/lang/String", "<init>", "([C)V"⟩ : MethodName)) rfl (w14 hw) (w15 hw) (w16 hw) (by decide) (a := b13) (argsL := [(.ref b10)]) (StrChars.Road.backV (W := 1) W13.2.2.2.1 (own_hV hw) (kI := 4) (w11 hw) (cs := [x2, x3]) (bs := [(x2).toInt8.toInt32, (x3).toInt8.toInt32]) (n := 2) (n0 := Z.heap.size) gz13 W13.zs A13 Fb13_value Fb13_coder c14 (SgCS.ext W13.ox) NgCS rfl rfl (by decide) (by decide) ok15.1 rfl (by decide) (by decide)) (by rw [hml]; rfl) (lenOf pd1 rfl) (S := [(.ref b13)]) rfl (by exact Nat.le_of_eq rfl) (pc' := 45) (hb hy d2_42) rfl (cells' := 3) (slots' := 8) rfl rfl (by decide) (by decide) (wy := [b13]) (fun _ _ _ q => ⟨q.2.1, q.2.2.1⟩) (allS ⟨gz13, (Or.inr gb13)⟩ all0) (fun _ K => IW.keep K (sfS sf16 sf0) W13.inv) ?_
      intro v17 T17 h17 lo17 W17 K17 q17
      obtain ⟨rfl, -, -, X17, Fc17, t17, kb17, gz17, ge17, -, Fv17, A17⟩ := q17
      have B17 : Arv Z h17 t17 kb17 .byte (2 : Int32) [(.int (StrChars.lo8 x2)), (.int (StrChars.lo8 x3))] (.int 0) := A17
      show Gl _ _ _ _ _ _ _ _ [(.ref b13)]
      exact o_retAW W17 (own_EL hw) hlk (v := (.ref b13)) hret rfl rfl (hb hy d2_45) (by decide) (by decide) ⟨b13, t17, kb17, gb13, X17, Fc17, Fv17, by rw [(own_cs2_2 hc0 hc1)]; exact B17, rfl⟩
theorem rm8 (l : Launch) (Z : State) (a0 : Array Value) (hw : ∀ d ∈ tables_1, d.before a0 Z = true) (x1 x2 x3 x4 x5 x6 : Int32) (h0 : Heap) (O0 : Old Z Z.heap.size h0) (h31 : own_3 x1) (h34 : own_3 x4) :
    CtrN l Z (⟨"com/example/plebiscite/plebiscite/core/CursorGivenByPinLaw", "same", "(ICCICC)Z"⟩ : MethodName) method_3_code 6 (some .boolean) [] (⟨0, 0, 0, 0⟩ : Room) #[(.int x1), (.int x2), (.int x3), (.int x4), (.int x5), (.int x6)] h0 [] (fun v h => v = some (.int (own_eq (own_cs2 x1 x2 x3) (own_cs2 x4 x5 x6)))) := by
  refine CtrN.intro (L0 := #[.val (.int x1), .val (.int x2), .val (.int x3), .val (.int x4), .val (.int x5), .val (.int x6)]) (plainFor_of_name pn2) O0 (own_entry rfl) ?_
  intro p e s m below meth c T0 hy hml hret hlk hnm W0
  refine o_iloadN W0 (pc' := 1) (hb hy d1_0) rfl rfl ?_
  refine o_iloadN W0 (pc' := 2) (hb hy d1_1) rfl rfl ?_
  by_cases he1 : x1 = x4
  · refine o_icmpY W0 (pc' := 7) (hb hy d1_2) (XT.ii_eq_t he1) (by decide) rfl ?_
    refine o_iloadN W0 (pc' := 8) (hb hy d1_7) rfl rfl ?_
    refine o_iconst W0 (v := 1) (pc' := 9) (hb hy d1_8) rfl rfl ?_
    by_cases he2 : x1 < (1 : Int32)
    · refine o_icmpY W0 (pc' := 20) (hb hy d1_9) (XT.ii_lt_t he2) (by decide) rfl ?_
      refine o_iloadN W0 (pc' := 21) (hb hy d1_20) rfl rfl ?_
      refine o_iconst W0 (v := 2) (pc' := 22) (hb hy d1_21) rfl rfl ?_
      by_cases he3 : x1 < (2 : Int32)
      · refine o_icmpY W0 (pc' := 33) (hb hy d1_22) (XT.ii_lt_t he3) (by decide) rfl ?_
        refine o_iconst W0 (v := 1) (pc' := 34) (hb hy d1_33) rfl rfl ?_
        exact o_retN W0 hlk (t := .boolean) hret (by simp) (z' := (1 : Int32)) (by decide) (hb hy d1_34) (by decide) (by decide) (own_vI (by rw [own_exp2 h31 h34]; first | exact own_ite1 ⟨by assumption, by first | exact Or.inl (by assumption) | exact Or.inr (by assumption), by first | exact Or.inl (by assumption) | exact Or.inr (by assumption)⟩ | (refine own_ite0 ?_; rintro ⟨q1, q2 | q2, q3 | q3⟩ <;> contradiction)))
      · refine o_icmpN W0 (pc' := 25) (hb hy d1_22) (XT.ii_lt_f he3) rfl ?_
        refine o_iloadN W0 (pc' := 26) (hb hy d1_25) rfl rfl ?_
        refine o_iload W0 (pc' := 28) (hb hy d1_26) rfl rfl ?_
        by_cases he4 : x3 = x6
        · refine o_icmpY W0 (pc' := 33) (hb hy d1_28) (XT.ii_eq_t he4) (by decide) rfl ?_
          refine o_iconst W0 (v := 1) (pc' := 34) (hb hy d1_33) rfl rfl ?_
          exact o_retN W0 hlk (t := .boolean) hret (by simp) (z' := (1 : Int32)) (by decide) (hb hy d1_34) (by decide) (by decide) (own_vI (by rw [own_exp2 h31 h34]; first | exact own_ite1 ⟨by assumption, by first | exact Or.inl (by assumption) | exact Or.inr (by assumption), by first | exact Or.inl (by assumption) | exact Or.inr (by assumption)⟩ | (refine own_ite0 ?_; rintro ⟨q1, q2 | q2, q3 | q3⟩ <;> contradiction)))
        · refine o_icmpN W0 (pc' := 31) (hb hy d1_28) (XT.ii_eq_f he4) rfl ?_
          refine o_iconst W0 (v := 0) (pc' := 32) (hb hy d1_31) rfl rfl ?_
          exact o_retN W0 hlk (t := .boolean) hret (by simp) (z' := (0 : Int32)) (by decide) (hb hy d1_32) (by decide) (by decide) (own_vI (by rw [own_exp2 h31 h34]; first | exact own_ite1 ⟨by assumption, by first | exact Or.inl (by assumption) | exact Or.inr (by assumption), by first | exact Or.inl (by assumption) | exact Or.inr (by assumption)⟩ | (refine own_ite0 ?_; rintro ⟨q1, q2 | q2, q3 | q3⟩ <;> contradiction)))
    · refine o_icmpN W0 (pc' := 12) (hb hy d1_9) (XT.ii_lt_f he2) rfl ?_
      refine o_iloadN W0 (pc' := 13) (hb hy d1_12) rfl rfl ?_
      refine o_iload W0 (pc' := 15) (hb hy d1_13) rfl rfl ?_
      by_cases he5 : x2 = x5
      · refine o_icmpY W0 (pc' := 20) (hb hy d1_15) (XT.ii_eq_t he5) (by decide) rfl ?_
        refine o_iloadN W0 (pc' := 21) (hb hy d1_20) rfl rfl ?_
        refine o_iconst W0 (v := 2) (pc' := 22) (hb hy d1_21) rfl rfl ?_
        by_cases he6 : x1 < (2 : Int32)
        · refine o_icmpY W0 (pc' := 33) (hb hy d1_22) (XT.ii_lt_t he6) (by decide) rfl ?_
          refine o_iconst W0 (v := 1) (pc' := 34) (hb hy d1_33) rfl rfl ?_
          exact o_retN W0 hlk (t := .boolean) hret (by simp) (z' := (1 : Int32)) (by decide) (hb hy d1_34) (by decide) (by decide) (own_vI (by rw [own_exp2 h31 h34]; first | exact own_ite1 ⟨by assumption, by first | exact Or.inl (by assumption) | exact Or.inr (by assumption), by first | exact Or.inl (by assumption) | exact Or.inr (by assumption)⟩ | (refine own_ite0 ?_; rintro ⟨q1, q2 | q2, q3 | q3⟩ <;> contradiction)))
        · refine o_icmpN W0 (pc' := 25) (hb hy d1_22) (XT.ii_lt_f he6) rfl ?_
          refine o_iloadN W0 (pc' := 26) (hb hy d1_25) rfl rfl ?_
          refine o_iload W0 (pc' := 28) (hb hy d1_26) rfl rfl ?_
          by_cases he7 : x3 = x6
          · refine o_icmpY W0 (pc' := 33) (hb hy d1_28) (XT.ii_eq_t he7) (by decide) rfl ?_
            refine o_iconst W0 (v := 1) (pc' := 34) (hb hy d1_33) rfl rfl ?_
            exact o_retN W0 hlk (t := .boolean) hret (by simp) (z' := (1 : Int32)) (by decide) (hb hy d1_34) (by decide) (by decide) (own_vI (by rw [own_exp2 h31 h34]; first | exact own_ite1 ⟨by assumption, by first | exact Or.inl (by assumption) | exact Or.inr (by assumption), by first | exact Or.inl (by assumption) | exact Or.inr (by assumption)⟩ | (refine own_ite0 ?_; rintro ⟨q1, q2 | q2, q3 | q3⟩ <;> contradiction)))
          · refine o_icmpN W0 (pc' := 31) (hb hy d1_28) (XT.ii_eq_f he7) rfl ?_
            refine o_iconst W0 (v := 0) (pc' := 32) (hb hy d1_31) rfl rfl ?_
            exact o_retN W0 hlk (t := .boolean) hret (by simp) (z' := (0 : Int32)) (by decide) (hb hy d1_32) (by decide) (by decide) (own_vI (by rw [own_exp2 h31 h34]; first | exact own_ite1 ⟨by assumption, by first | exact Or.inl (by assumption) | exact Or.inr (by assumption), by first | exact Or.inl (by assumption) | exact Or.inr (by assumption)⟩ | (refine own_ite0 ?_; rintro ⟨q1, q2 | q2, q3 | q3⟩ <;> contradiction)))
      · refine o_icmpN W0 (pc' := 18) (hb hy d1_15) (XT.ii_eq_f he5) rfl ?_
        refine o_iconst W0 (v := 0) (pc' := 19) (hb hy d1_18) rfl rfl ?_
        exact o_retN W0 hlk (t := .boolean) hret (by simp) (z' := (0 : Int32)) (by decide) (hb hy d1_19) (by decide) (by decide) (own_vI (by rw [own_exp2 h31 h34]; first | exact own_ite1 ⟨by assumption, by first | exact Or.inl (by assumption) | exact Or.inr (by assumption), by first | exact Or.inl (by assumption) | exact Or.inr (by assumption)⟩ | (refine own_ite0 ?_; rintro ⟨q1, q2 | q2, q3 | q3⟩ <;> contradiction)))
  · refine o_icmpN W0 (pc' := 5) (hb hy d1_2) (XT.ii_eq_f he1) rfl ?_
    refine o_iconst W0 (v := 0) (pc' := 6) (hb hy d1_5) rfl rfl ?_
    exact o_retN W0 hlk (t := .boolean) hret (by simp) (z' := (0 : Int32)) (by decide) (hb hy d1_6) (by decide) (by decide) (own_vI (by rw [own_exp2 h31 h34]; first | exact own_ite1 ⟨by assumption, by first | exact Or.inl (by assumption) | exact Or.inr (by assumption), by first | exact Or.inl (by assumption) | exact Or.inr (by assumption)⟩ | (refine own_ite0 ?_; rintro ⟨q1, q2 | q2, q3 | q3⟩ <;> contradiction)))
theorem rm9 (l : Launch) (Z : State) (a0 : Array Value) (hw : ∀ d ∈ tables_1, d.before a0 Z = true) (a1 : Addr) (h0 : Heap) (O0 : Old Z Z.heap.size h0) :
    CtrN l Z (⟨"java/lang/Record", "<init>", "()V"⟩ : MethodName) jdk_30_method_1_code 1 none [] (⟨1, 0, 0, 12⟩ : Room) #[(.ref a1)] h0 [] (fun v h => v = none) := by
  refine CtrN.intro (L0 := #[.val (.ref a1)]) (plainFor_of_name pn3) O0 (own_entry rfl) ?_
  intro p e s m below meth c T0 hy hml hret hlk hnm W0
  refine o_aloadN W0 (pc' := 1) (hb hy d7_0) rfl rfl rfl ?_
  refine o_initO W0 (w43 hw) (w22 hw) (w23 hw) (by rw [hml]; rfl) (pc' := 4) (hb hy d7_1) rfl (by decide) 0 (by exact Nat.le_of_eq rfl) (by decide) ?_
  intro T1 W1
  exact o_ret0 W1 hlk hret (hb hy d7_4) (by decide) (by decide) rfl
theorem rm10 (l : Launch) (Z : State) (a0 : Array Value) (hw : ∀ d ∈ tables_1, d.before a0 Z = true) (a1 : Addr) (y1 y2 y3 y4 : Int64) (h0 : Heap) (O0 : Old Z Z.heap.size h0) (E_a1 : Exa Z h0 a1 "com/example/plebiscite/plebiscite/core/Multilog$Point") (F_a1_actions : Fld Z h0 a1 "com/example/plebiscite/plebiscite/core/Multilog$Point" "actions" "J" (.long (0 : Int64))) (g_a1 : Z.heap.size ≤ a1) (F_a1_constraints : Fld Z h0 a1 "com/example/plebiscite/plebiscite/core/Multilog$Point" "constraints" "J" (.long (0 : Int64))) (F_a1_guarantees : Fld Z h0 a1 "com/example/plebiscite/plebiscite/core/Multilog$Point" "guarantees" "J" (.long (0 : Int64))) (F_a1_kills : Fld Z h0 a1 "com/example/plebiscite/plebiscite/core/Multilog$Point" "kills" "J" (.long (0 : Int64))) :
    CtrN l Z (⟨"com/example/plebiscite/plebiscite/core/Multilog$Point", "<init>", "(JJJJ)V"⟩ : MethodName) prog_39_method_1_code 9 none [] (⟨2, 0, 0, 24⟩ : Room) #[(.ref a1), (.long y1), (.long y2), (.long y3), (.long y4)] h0 [a1] (fun v h => Fld Z h a1 "com/example/plebiscite/plebiscite/core/Multilog$Point" "actions" "J" (.long y1) ∧ Fld Z h a1 "com/example/plebiscite/plebiscite/core/Multilog$Point" "constraints" "J" (.long y2) ∧ Fld Z h a1 "com/example/plebiscite/plebiscite/core/Multilog$Point" "guarantees" "J" (.long y3) ∧ Fld Z h a1 "com/example/plebiscite/plebiscite/core/Multilog$Point" "kills" "J" (.long y4) ∧ v = none) := by
  refine CtrN.intro (L0 := #[.val (.ref a1), .val (.long y1), .second, .val (.long y2), .second, .val (.long y3), .second, .val (.long y4), .second]) (plainFor_of_name pn4) O0 (own_entry rfl) ?_
  intro p e s m below meth c T0 hy hml hret hlk hnm W0
  refine o_aloadN W0 (pc' := 1) (hb hy d6_0) rfl rfl rfl ?_
  refine o_special W0 (y := (⟨"java/lang/Record", "<init>", "()V"⟩ : MethodName)) rfl (w38 hw) (w39 hw) (w42 hw) (by decide) (a := a1) (argsL := []) (CtrN.back (Wd := 0) W0 (rm9 l Z a0 hw a1 h0 W0.old ) (w42 hw) (w41 hw) (by decide) (by decide)) (by rw [hml]; rfl) (lenOf pd8 rfl) (S := []) rfl (by exact Nat.le_of_eq rfl) (pc' := 4) (hb hy d6_1) rfl (cells' := 0) (slots' := 0) rfl rfl (by decide) (by decide) (wy := []) (fun _ _ _ q => ⟨q.1, q.2.1⟩) all0 (fun _ _ => trivial) ?_
  intro v1 T1 h1 lo1 W1 K1 q1
  obtain rfl := q1.2.2
  show Gl _ _ _ _ _ _ _ _ []
  refine o_aloadN W1 (pc' := 5) (hb hy d6_4) rfl rfl rfl ?_
  refine o_lloadN W1 (pc' := 6) (hb hy d6_5) rfl rfl ?_
  have c2 := (E_a1.keep K1)
  have c3 := (F_a1_actions.keep K1 nin0)
  refine o_putF W1 (w44 hw) Via.refl c3 c2 (Or.inr ⟨(w45 hw), rfl, hnm⟩) (w33 hw) (ty := .long) (v' := (.long y1)) (by decide) rfl rfl g_a1 (Or.inl (List.mem_of_getElem? (i := 0) rfl)) (fun _ _ => trivial) (pc' := 9) (hb hy d6_6) rfl ?_
  intro T4 h4 lo4 W4 R4
  have F4 := c3.same R4
  refine o_aloadN W4 (pc' := 10) (hb hy d6_9) rfl rfl rfl ?_
  refine o_lloadN W4 (pc' := 11) (hb hy d6_10) rfl rfl ?_
  have c5 := (c2.wr R4)
  have c6 := ((F_a1_constraints.keep K1 nin0).other R4 (Or.inr (slot_ne (Or.inr (w47 hw)) (Or.inr (w45 hw)) (by decide) (t := .long) (t' := .long) (by decide) (by decide))))
  refine o_putF W4 (w46 hw) Via.refl c6 c5 (Or.inr ⟨(w47 hw), rfl, hnm⟩) (w33 hw) (ty := .long) (v' := (.long y2)) (by decide) rfl rfl g_a1 (Or.inl (List.mem_of_getElem? (i := 0) rfl)) (fun _ _ => trivial) (pc' := 14) (hb hy d6_11) rfl ?_
  intro T7 h7 lo7 W7 R7
  have F7 := c6.same R7
  refine o_aloadN W7 (pc' := 15) (hb hy d6_14) rfl rfl rfl ?_
  refine o_lload W7 (pc' := 17) (hb hy d6_15) rfl rfl ?_
  have c8 := (c5.wr R7)
  have c9 := (((F_a1_guarantees.keep K1 nin0).other R4 (Or.inr (slot_ne (Or.inr (w49 hw)) (Or.inr (w45 hw)) (by decide) (t := .long) (t' := .long) (by decide) (by decide)))).other R7 (Or.inr (slot_ne (Or.inr (w49 hw)) (Or.inr (w47 hw)) (by decide) (t := .long) (t' := .long) (by decide) (by decide))))
  refine o_putF W7 (w48 hw) Via.refl c9 c8 (Or.inr ⟨(w49 hw), rfl, hnm⟩) (w33 hw) (ty := .long) (v' := (.long y3)) (by decide) rfl rfl g_a1 (Or.inl (List.mem_of_getElem? (i := 0) rfl)) (fun _ _ => trivial) (pc' := 20) (hb hy d6_17) rfl ?_
  intro T10 h10 lo10 W10 R10
  have F10 := c9.same R10
  refine o_aloadN W10 (pc' := 21) (hb hy d6_20) rfl rfl rfl ?_
  refine o_lload W10 (pc' := 23) (hb hy d6_21) rfl rfl ?_
  have c11 := (c8.wr R10)
  have c12 := ((((F_a1_kills.keep K1 nin0).other R4 (Or.inr (slot_ne (Or.inr (w51 hw)) (Or.inr (w45 hw)) (by decide) (t := .long) (t' := .long) (by decide) (by decide)))).other R7 (Or.inr (slot_ne (Or.inr (w51 hw)) (Or.inr (w47 hw)) (by decide) (t := .long) (t' := .long) (by decide) (by decide)))).other R10 (Or.inr (slot_ne (Or.inr (w51 hw)) (Or.inr (w49 hw)) (by decide) (t := .long) (t' := .long) (by decide) (by decide))))
  refine o_putF W10 (w50 hw) Via.refl c12 c11 (Or.inr ⟨(w51 hw), rfl, hnm⟩) (w33 hw) (ty := .long) (v' := (.long y4)) (by decide) rfl rfl g_a1 (Or.inl (List.mem_of_getElem? (i := 0) rfl)) (fun _ _ => trivial) (pc' := 26) (hb hy d6_23) rfl ?_
  intro T13 h13 lo13 W13 R13
  have F13 := c12.same R13
  have c14 := (((F4.other R7 (Or.inr (slot_ne (Or.inr (w45 hw)) (Or.inr (w47 hw)) (by decide) (t := .long) (t' := .long) (by decide) (by decide)))).other R10 (Or.inr (slot_ne (Or.inr (w45 hw)) (Or.inr (w49 hw)) (by decide) (t := .long) (t' := .long) (by decide) (by decide)))).other R13 (Or.inr (slot_ne (Or.inr (w45 hw)) (Or.inr (w51 hw)) (by decide) (t := .long) (t' := .long) (by decide) (by decide))))
  have c15 := ((F7.other R10 (Or.inr (slot_ne (Or.inr (w47 hw)) (Or.inr (w49 hw)) (by decide) (t := .long) (t' := .long) (by decide) (by decide)))).other R13 (Or.inr (slot_ne (Or.inr (w47 hw)) (Or.inr (w51 hw)) (by decide) (t := .long) (t' := .long) (by decide) (by decide))))
  have c16 := (F10.other R13 (Or.inr (slot_ne (Or.inr (w49 hw)) (Or.inr (w51 hw)) (by decide) (t := .long) (t' := .long) (by decide) (by decide))))
  have c17 := (c11.wr R13)
  exact o_ret0 W13 hlk hret (hb hy d6_26) (by decide) (by decide) ⟨c14, c15, c16, F13, rfl⟩
theorem rm11 (l : Launch) (Z : State) (a0 : Array Value) (hw : ∀ d ∈ tables_1, d.before a0 Z = true) (a1 a2 a3 a4 : Addr) (h0 : Heap) (O0 : Old Z Z.heap.size h0) (E_a1 : Exa Z h0 a1 "com/example/plebiscite/plebiscite/core/Cursor") (F_a1_replica : Fld Z h0 a1 "com/example/plebiscite/plebiscite/core/Cursor" "replica" "Ljava/lang/String;" .null) (g_a1 : Z.heap.size ≤ a1) (F_a1_epoch : Fld Z h0 a1 "com/example/plebiscite/plebiscite/core/Cursor" "epoch" "Ljava/lang/String;" .null) (F_a1_point : Fld Z h0 a1 "com/example/plebiscite/plebiscite/core/Cursor" "point" "Lcom/example/plebiscite/plebiscite/core/Multilog$Point;" .null) :
    CtrN l Z (⟨"com/example/plebiscite/plebiscite/core/Cursor", "<init>", "(Ljava/lang/String;Ljava/lang/String;Lcom/example/plebiscite/plebiscite/core/Multilog$Point;)V"⟩ : MethodName) prog_21_method_1_code 4 none [] (⟨2, 0, 0, 24⟩ : Room) #[(.ref a1), (.ref a2), (.ref a3), (.ref a4)] h0 [a1] (fun v h => Fld Z h a1 "com/example/plebiscite/plebiscite/core/Cursor" "replica" "Ljava/lang/String;" (.ref a2) ∧ Fld Z h a1 "com/example/plebiscite/plebiscite/core/Cursor" "epoch" "Ljava/lang/String;" (.ref a3) ∧ Fld Z h a1 "com/example/plebiscite/plebiscite/core/Cursor" "point" "Lcom/example/plebiscite/plebiscite/core/Multilog$Point;" (.ref a4) ∧ v = none) := by
  refine CtrN.intro (L0 := #[.val (.ref a1), .val (.ref a2), .val (.ref a3), .val (.ref a4)]) (plainFor_of_name pn5) O0 (own_entry rfl) ?_
  intro p e s m below meth c T0 hy hml hret hlk hnm W0
  refine o_aloadN W0 (pc' := 1) (hb hy d8_0) rfl rfl rfl ?_
  refine o_special W0 (y := (⟨"java/lang/Record", "<init>", "()V"⟩ : MethodName)) rfl (w55 hw) (w39 hw) (w42 hw) (by decide) (a := a1) (argsL := []) (CtrN.back (Wd := 0) W0 (rm9 l Z a0 hw a1 h0 W0.old ) (w42 hw) (w41 hw) (by decide) (by decide)) (by rw [hml]; rfl) (lenOf pd8 rfl) (S := []) rfl (by exact Nat.le_of_eq rfl) (pc' := 4) (hb hy d8_1) rfl (cells' := 0) (slots' := 0) rfl rfl (by decide) (by decide) (wy := []) (fun _ _ _ q => ⟨q.1, q.2.1⟩) all0 (fun _ _ => trivial) ?_
  intro v1 T1 h1 lo1 W1 K1 q1
  obtain rfl := q1.2.2
  show Gl _ _ _ _ _ _ _ _ []
  refine o_aloadN W1 (pc' := 5) (hb hy d8_4) rfl rfl rfl ?_
  refine o_aloadN W1 (pc' := 6) (hb hy d8_5) rfl rfl rfl ?_
  have c2 := (E_a1.keep K1)
  have c3 := (F_a1_replica.keep K1 nin0)
  refine o_putF W1 (w56 hw) Via.refl c3 c2 (Or.inr ⟨(w57 hw), rfl, hnm⟩) (w5 hw) (ty := (.object "java/lang/String")) (v' := (.ref a2)) (by decide) rfl rfl g_a1 (Or.inl (List.mem_of_getElem? (i := 0) rfl)) (fun _ _ => trivial) (pc' := 9) (hb hy d8_6) rfl ?_
  intro T4 h4 lo4 W4 R4
  have F4 := c3.same R4
  refine o_aloadN W4 (pc' := 10) (hb hy d8_9) rfl rfl rfl ?_
  refine o_aloadN W4 (pc' := 11) (hb hy d8_10) rfl rfl rfl ?_
  have c5 := (c2.wr R4)
  have c6 := ((F_a1_epoch.keep K1 nin0).other R4 (Or.inr (slot_ne (Or.inr (w59 hw)) (Or.inr (w57 hw)) (by decide) (t := (.object "java/lang/String")) (t' := (.object "java/lang/String")) (by decide) (by decide))))
  refine o_putF W4 (w58 hw) Via.refl c6 c5 (Or.inr ⟨(w59 hw), rfl, hnm⟩) (w5 hw) (ty := (.object "java/lang/String")) (v' := (.ref a3)) (by decide) rfl rfl g_a1 (Or.inl (List.mem_of_getElem? (i := 0) rfl)) (fun _ _ => trivial) (pc' := 14) (hb hy d8_11) rfl ?_
  intro T7 h7 lo7 W7 R7
  have F7 := c6.same R7
  refine o_aloadN W7 (pc' := 15) (hb hy d8_14) rfl rfl rfl ?_
  refine o_aloadN W7 (pc' := 16) (hb hy d8_15) rfl rfl rfl ?_
  have c8 := (c5.wr R7)
  have c9 := (((F_a1_point.keep K1 nin0).other R4 (Or.inr (slot_ne (Or.inr (w61 hw)) (Or.inr (w57 hw)) (by decide) (t := (.object "com/example/plebiscite/plebiscite/core/Multilog$Point")) (t' := (.object "java/lang/String")) (by decide) (by decide)))).other R7 (Or.inr (slot_ne (Or.inr (w61 hw)) (Or.inr (w59 hw)) (by decide) (t := (.object "com/example/plebiscite/plebiscite/core/Multilog$Point")) (t' := (.object "java/lang/String")) (by decide) (by decide))))
  refine o_putF W7 (w60 hw) Via.refl c9 c8 (Or.inr ⟨(w61 hw), rfl, hnm⟩) (w5 hw) (ty := (.object "com/example/plebiscite/plebiscite/core/Multilog$Point")) (v' := (.ref a4)) (by decide) rfl rfl g_a1 (Or.inl (List.mem_of_getElem? (i := 0) rfl)) (fun _ _ => trivial) (pc' := 19) (hb hy d8_16) rfl ?_
  intro T10 h10 lo10 W10 R10
  have F10 := c9.same R10
  have c11 := ((F4.other R7 (Or.inr (slot_ne (Or.inr (w57 hw)) (Or.inr (w59 hw)) (by decide) (t := (.object "java/lang/String")) (t' := (.object "java/lang/String")) (by decide) (by decide)))).other R10 (Or.inr (slot_ne (Or.inr (w57 hw)) (Or.inr (w61 hw)) (by decide) (t := (.object "java/lang/String")) (t' := (.object "com/example/plebiscite/plebiscite/core/Multilog$Point")) (by decide) (by decide))))
  have c12 := (F7.other R10 (Or.inr (slot_ne (Or.inr (w59 hw)) (Or.inr (w61 hw)) (by decide) (t := (.object "java/lang/String")) (t' := (.object "com/example/plebiscite/plebiscite/core/Multilog$Point")) (by decide) (by decide))))
  have c13 := (c8.wr R10)
  exact o_ret0 W10 hlk hret (hb hy d8_19) (by decide) (by decide) ⟨c11, c12, F10, rfl⟩
theorem rm12 (l : Launch) (Z : State) (a0 : Array Value) (hw : ∀ d ∈ tables_1, d.before a0 Z = true) (gCS : Int32) (a1 a2 a3 a4 a5 : Addr) (k_a5 : ClassId) (l1 : List Int32) (a6 : Addr) (k_a6 : ClassId) (l2 : List Int32) (h0 : Heap) (O0 : Old Z Z.heap.size h0) (F_a1_replica : Fld Z h0 a1 "com/example/plebiscite/plebiscite/core/Cursor" "replica" "Ljava/lang/String;" (.ref a4)) (E_a4 : Exa Z h0 a4 "java/lang/String") (SgCS : Sta Z Z.heap "java/lang/String" "COMPACT_STRINGS" "Z" (.int gCS)) (NgCS : ¬ (gCS = (0 : Int32))) (F_a4_value : Fld Z h0 a4 "java/lang/String" "value" "[B" (.ref a5)) (F_a4_coder : Fld Z h0 a4 "java/lang/String" "coder" "B" (.int 0)) (V_a5 : Arv Z h0 a5 k_a5 .byte (Int32.ofNat (l1).length) ((l1).map fun c => Value.int (StrChars.lo8 c)) (.int 0)) (hu2 : own_ok l1) (E_a2 : Exa Z h0 a2 "java/lang/String") (F_a2_value : Fld Z h0 a2 "java/lang/String" "value" "[B" (.ref a6)) (F_a2_coder : Fld Z h0 a2 "java/lang/String" "coder" "B" (.int 0)) (V_a6 : Arv Z h0 a6 k_a6 .byte (Int32.ofNat (l2).length) ((l2).map fun c => Value.int (StrChars.lo8 c)) (.int 0)) (hu3 : own_ok l2) (hc7 : (own_eq l1 l2) = (0 : Int32)) :
    CtrN l Z (⟨"com/example/plebiscite/plebiscite/core/Cursor", "givenBy", "(Ljava/lang/String;Ljava/lang/String;)Z"⟩ : MethodName) prog_21_method_5_code 3 (some .boolean) [] (⟨2, 0, 0, 28⟩ : Room) #[(.ref a1), (.ref a2), (.ref a3)] h0 [] (fun v h => v = some (.int 0)) := by
  refine CtrN.intro (L0 := #[.val (.ref a1), .val (.ref a2), .val (.ref a3)]) (plainFor_of_name pn5) O0 (own_entry rfl) ?_
  intro p e s m below meth c T0 hy hml hret hlk hnm W0
  refine o_aloadN W0 (pc' := 1) (hb hy d9_0) rfl rfl rfl ?_
  refine o_getF W0 (w56 hw) Via.refl F_a1_replica (pc' := 4) (hb hy d9_1) rfl ?_
  intro T1 W1
  refine o_aloadN W1 (pc' := 5) (hb hy d9_4) rfl rfl rfl ?_
  have ok4 : own_ok l1 := hu2
  have ok5 : own_ok l2 := hu3
  refine o_virtual W1 (y := (⟨"java/lang/String", "equals", "(Ljava/lang/Object;)Z"⟩ : MethodName)) (z := (⟨"java/lang/String", "equals", "(Ljava/lang/Object;)Z"⟩ : MethodName)) (kc := 0) (ks := 0) (Q := fun v hh L => ((v = some (.int 1) ∧ l1 = l2) ∨ (v = some (.int 0) ∧ ¬ l1 = l2)) ∧ L = [] ∧ hh = h0) (w67 hw) (w68 hw) (o_nf W1 rfl (w70 hw)) (w70 hw) (w69 hw) (by decide) E_a4 (argsL := [(.ref a2)]) (StrChars.Road.eqW (W := 0) W1.2.2.2.1 (own_hE hw) (kI := 4) (w11 hw) E_a4 F_a4_value F_a4_coder V_a5 (own_cod ok4) (own_up ok4) ok4.2 E_a2 F_a2_value F_a2_coder V_a6 (own_cod ok5) (own_up ok5) ok5.2 (SgCS.ext W1.ox) NgCS (by decide) (by decide)) (by rw [hml]; rfl) (lenOf pd11 rfl) (S := []) rfl (by exact Nat.le_of_eq rfl) (pc' := 8) (hb hy d9_5) rfl (cells' := 0) (slots' := 0) rfl rfl (by decide) (by decide) (wy := []) (fun _ _ _ q => own_same q.2) all0 (fun _ _ => trivial) ?_
  intro v6 T6 h6 lo6 W6 K6 q6
  obtain rfl := own_eqv q6.1
  show Gl _ _ _ _ _ _ _ _ [(.int (own_eq l1 l2))]
  refine o_ifY W6 (pc' := 26) (hb hy d9_8) (XT.i0_eq_t hc7) (by decide) rfl ?_
  refine o_iconst W6 (v := 0) (pc' := 27) (hb hy d9_26) rfl rfl ?_
  exact o_retN W6 hlk (t := .boolean) hret (by simp) (z' := (0 : Int32)) (by decide) (hb hy d9_27) (by decide) (by decide) rfl
theorem rm13 (l : Launch) (Z : State) (a0 : Array Value) (hw : ∀ d ∈ tables_1, d.before a0 Z = true) (gCS : Int32) (a1 a2 a3 a4 a5 : Addr) (k_a5 : ClassId) (l1 : List Int32) (a6 : Addr) (k_a6 : ClassId) (l2 : List Int32) (a7 a8 : Addr) (k_a8 : ClassId) (l3 : List Int32) (a9 : Addr) (k_a9 : ClassId) (l4 : List Int32) (h0 : Heap) (O0 : Old Z Z.heap.size h0) (F_a1_replica : Fld Z h0 a1 "com/example/plebiscite/plebiscite/core/Cursor" "replica" "Ljava/lang/String;" (.ref a4)) (E_a4 : Exa Z h0 a4 "java/lang/String") (SgCS : Sta Z Z.heap "java/lang/String" "COMPACT_STRINGS" "Z" (.int gCS)) (NgCS : ¬ (gCS = (0 : Int32))) (F_a4_value : Fld Z h0 a4 "java/lang/String" "value" "[B" (.ref a5)) (F_a4_coder : Fld Z h0 a4 "java/lang/String" "coder" "B" (.int 0)) (V_a5 : Arv Z h0 a5 k_a5 .byte (Int32.ofNat (l1).length) ((l1).map fun c => Value.int (StrChars.lo8 c)) (.int 0)) (hu2 : own_ok l1) (E_a2 : Exa Z h0 a2 "java/lang/String") (F_a2_value : Fld Z h0 a2 "java/lang/String" "value" "[B" (.ref a6)) (F_a2_coder : Fld Z h0 a2 "java/lang/String" "coder" "B" (.int 0)) (V_a6 : Arv Z h0 a6 k_a6 .byte (Int32.ofNat (l2).length) ((l2).map fun c => Value.int (StrChars.lo8 c)) (.int 0)) (hu3 : own_ok l2) (hc7 : ¬ ((own_eq l1 l2) = (0 : Int32))) (F_a1_epoch : Fld Z h0 a1 "com/example/plebiscite/plebiscite/core/Cursor" "epoch" "Ljava/lang/String;" (.ref a7)) (E_a7 : Exa Z h0 a7 "java/lang/String") (F_a7_value : Fld Z h0 a7 "java/lang/String" "value" "[B" (.ref a8)) (F_a7_coder : Fld Z h0 a7 "java/lang/String" "coder" "B" (.int 0)) (V_a8 : Arv Z h0 a8 k_a8 .byte (Int32.ofNat (l3).length) ((l3).map fun c => Value.int (StrChars.lo8 c)) (.int 0)) (hu14 : own_ok l3) (E_a3 : Exa Z h0 a3 "java/lang/String") (F_a3_value : Fld Z h0 a3 "java/lang/String" "value" "[B" (.ref a9)) (F_a3_coder : Fld Z h0 a3 "java/lang/String" "coder" "B" (.int 0)) (V_a9 : Arv Z h0 a9 k_a9 .byte (Int32.ofNat (l4).length) ((l4).map fun c => Value.int (StrChars.lo8 c)) (.int 0)) (hu19 : own_ok l4) (hc23 : (own_eq l3 l4) = (0 : Int32)) :
    CtrN l Z (⟨"com/example/plebiscite/plebiscite/core/Cursor", "givenBy", "(Ljava/lang/String;Ljava/lang/String;)Z"⟩ : MethodName) prog_21_method_5_code 3 (some .boolean) [] (⟨2, 0, 0, 28⟩ : Room) #[(.ref a1), (.ref a2), (.ref a3)] h0 [] (fun v h => v = some (.int 0)) := by
  refine CtrN.intro (L0 := #[.val (.ref a1), .val (.ref a2), .val (.ref a3)]) (plainFor_of_name pn5) O0 (own_entry rfl) ?_
  intro p e s m below meth c T0 hy hml hret hlk hnm W0
  refine o_aloadN W0 (pc' := 1) (hb hy d9_0) rfl rfl rfl ?_
  refine o_getF W0 (w56 hw) Via.refl F_a1_replica (pc' := 4) (hb hy d9_1) rfl ?_
  intro T1 W1
  refine o_aloadN W1 (pc' := 5) (hb hy d9_4) rfl rfl rfl ?_
  have ok4 : own_ok l1 := hu2
  have ok5 : own_ok l2 := hu3
  refine o_virtual W1 (y := (⟨"java/lang/String", "equals", "(Ljava/lang/Object;)Z"⟩ : MethodName)) (z := (⟨"java/lang/String", "equals", "(Ljava/lang/Object;)Z"⟩ : MethodName)) (kc := 0) (ks := 0) (Q := fun v hh L => ((v = some (.int 1) ∧ l1 = l2) ∨ (v = some (.int 0) ∧ ¬ l1 = l2)) ∧ L = [] ∧ hh = h0) (w67 hw) (w68 hw) (o_nf W1 rfl (w70 hw)) (w70 hw) (w69 hw) (by decide) E_a4 (argsL := [(.ref a2)]) (StrChars.Road.eqW (W := 0) W1.2.2.2.1 (own_hE hw) (kI := 4) (w11 hw) E_a4 F_a4_value F_a4_coder V_a5 (own_cod ok4) (own_up ok4) ok4.2 E_a2 F_a2_value F_a2_coder V_a6 (own_cod ok5) (own_up ok5) ok5.2 (SgCS.ext W1.ox) NgCS (by decide) (by decide)) (by rw [hml]; rfl) (lenOf pd11 rfl) (S := []) rfl (by exact Nat.le_of_eq rfl) (pc' := 8) (hb hy d9_5) rfl (cells' := 0) (slots' := 0) rfl rfl (by decide) (by decide) (wy := []) (fun _ _ _ q => own_same q.2) all0 (fun _ _ => trivial) ?_
  intro v6 T6 h6 lo6 W6 K6 q6
  obtain rfl := own_eqv q6.1
  show Gl _ _ _ _ _ _ _ _ [(.int (own_eq l1 l2))]
  refine o_ifN W6 (pc' := 11) (hb hy d9_8) (XT.i0_eq_f hc7) rfl ?_
  refine o_aloadN W6 (pc' := 12) (hb hy d9_11) rfl rfl rfl ?_
  have c8 := (F_a1_epoch.keep K6 nin0)
  refine o_getF W6 (w58 hw) Via.refl c8 (pc' := 15) (hb hy d9_12) rfl ?_
  intro T9 W9
  refine o_aloadN W9 (pc' := 16) (hb hy d9_15) rfl rfl rfl ?_
  have c10 := (E_a7.keep K6)
  have c11 := (F_a7_value.keep K6 nin0)
  have c12 := (F_a7_coder.keep K6 nin0)
  have c13 := (V_a8.keep K6 nin0)
  have c15 := (E_a3.keep K6)
  have c16 := (F_a3_value.keep K6 nin0)
  have c17 := (F_a3_coder.keep K6 nin0)
  have c18 := (V_a9.keep K6 nin0)
  have ok20 : own_ok l3 := hu14
  have ok21 : own_ok l4 := hu19
  refine o_virtual W9 (y := (⟨"java/lang/String", "equals", "(Ljava/lang/Object;)Z"⟩ : MethodName)) (z := (⟨"java/lang/String", "equals", "(Ljava/lang/Object;)Z"⟩ : MethodName)) (kc := 0) (ks := 0) (Q := fun v hh L => ((v = some (.int 1) ∧ l3 = l4) ∨ (v = some (.int 0) ∧ ¬ l3 = l4)) ∧ L = [] ∧ hh = h6) (w67 hw) (w68 hw) (o_nf W9 rfl (w70 hw)) (w70 hw) (w69 hw) (by decide) c10 (argsL := [(.ref a3)]) (StrChars.Road.eqW (W := 0) W9.2.2.2.1 (own_hE hw) (kI := 4) (w11 hw) c10 c11 c12 c13 (own_cod ok20) (own_up ok20) ok20.2 c15 c16 c17 c18 (own_cod ok21) (own_up ok21) ok21.2 (SgCS.ext W9.ox) NgCS (by decide) (by decide)) (by rw [hml]; rfl) (lenOf pd11 rfl) (S := []) rfl (by exact Nat.le_of_eq rfl) (pc' := 19) (hb hy d9_16) rfl (cells' := 0) (slots' := 0) rfl rfl (by decide) (by decide) (wy := []) (fun _ _ _ q => own_same q.2) all0 (fun _ _ => trivial) ?_
  intro v22 T22 h22 lo22 W22 K22 q22
  obtain rfl := own_eqv q22.1
  show Gl _ _ _ _ _ _ _ _ [(.int (own_eq l3 l4))]
  refine o_ifY W22 (pc' := 26) (hb hy d9_19) (XT.i0_eq_t hc23) (by decide) rfl ?_
  refine o_iconst W22 (v := 0) (pc' := 27) (hb hy d9_26) rfl rfl ?_
  exact o_retN W22 hlk (t := .boolean) hret (by simp) (z' := (0 : Int32)) (by decide) (hb hy d9_27) (by decide) (by decide) rfl
theorem rm14 (l : Launch) (Z : State) (a0 : Array Value) (hw : ∀ d ∈ tables_1, d.before a0 Z = true) (gCS : Int32) (a1 a2 a3 a4 a5 : Addr) (k_a5 : ClassId) (l1 : List Int32) (a6 : Addr) (k_a6 : ClassId) (l2 : List Int32) (a7 a8 : Addr) (k_a8 : ClassId) (l3 : List Int32) (a9 : Addr) (k_a9 : ClassId) (l4 : List Int32) (h0 : Heap) (O0 : Old Z Z.heap.size h0) (F_a1_replica : Fld Z h0 a1 "com/example/plebiscite/plebiscite/core/Cursor" "replica" "Ljava/lang/String;" (.ref a4)) (E_a4 : Exa Z h0 a4 "java/lang/String") (SgCS : Sta Z Z.heap "java/lang/String" "COMPACT_STRINGS" "Z" (.int gCS)) (NgCS : ¬ (gCS = (0 : Int32))) (F_a4_value : Fld Z h0 a4 "java/lang/String" "value" "[B" (.ref a5)) (F_a4_coder : Fld Z h0 a4 "java/lang/String" "coder" "B" (.int 0)) (V_a5 : Arv Z h0 a5 k_a5 .byte (Int32.ofNat (l1).length) ((l1).map fun c => Value.int (StrChars.lo8 c)) (.int 0)) (hu2 : own_ok l1) (E_a2 : Exa Z h0 a2 "java/lang/String") (F_a2_value : Fld Z h0 a2 "java/lang/String" "value" "[B" (.ref a6)) (F_a2_coder : Fld Z h0 a2 "java/lang/String" "coder" "B" (.int 0)) (V_a6 : Arv Z h0 a6 k_a6 .byte (Int32.ofNat (l2).length) ((l2).map fun c => Value.int (StrChars.lo8 c)) (.int 0)) (hu3 : own_ok l2) (hc7 : ¬ ((own_eq l1 l2) = (0 : Int32))) (F_a1_epoch : Fld Z h0 a1 "com/example/plebiscite/plebiscite/core/Cursor" "epoch" "Ljava/lang/String;" (.ref a7)) (E_a7 : Exa Z h0 a7 "java/lang/String") (F_a7_value : Fld Z h0 a7 "java/lang/String" "value" "[B" (.ref a8)) (F_a7_coder : Fld Z h0 a7 "java/lang/String" "coder" "B" (.int 0)) (V_a8 : Arv Z h0 a8 k_a8 .byte (Int32.ofNat (l3).length) ((l3).map fun c => Value.int (StrChars.lo8 c)) (.int 0)) (hu14 : own_ok l3) (E_a3 : Exa Z h0 a3 "java/lang/String") (F_a3_value : Fld Z h0 a3 "java/lang/String" "value" "[B" (.ref a9)) (F_a3_coder : Fld Z h0 a3 "java/lang/String" "coder" "B" (.int 0)) (V_a9 : Arv Z h0 a9 k_a9 .byte (Int32.ofNat (l4).length) ((l4).map fun c => Value.int (StrChars.lo8 c)) (.int 0)) (hu19 : own_ok l4) (hc23 : ¬ ((own_eq l3 l4) = (0 : Int32))) :
    CtrN l Z (⟨"com/example/plebiscite/plebiscite/core/Cursor", "givenBy", "(Ljava/lang/String;Ljava/lang/String;)Z"⟩ : MethodName) prog_21_method_5_code 3 (some .boolean) [] (⟨2, 0, 0, 28⟩ : Room) #[(.ref a1), (.ref a2), (.ref a3)] h0 [] (fun v h => v = some (.int 1)) := by
  refine CtrN.intro (L0 := #[.val (.ref a1), .val (.ref a2), .val (.ref a3)]) (plainFor_of_name pn5) O0 (own_entry rfl) ?_
  intro p e s m below meth c T0 hy hml hret hlk hnm W0
  refine o_aloadN W0 (pc' := 1) (hb hy d9_0) rfl rfl rfl ?_
  refine o_getF W0 (w56 hw) Via.refl F_a1_replica (pc' := 4) (hb hy d9_1) rfl ?_
  intro T1 W1
  refine o_aloadN W1 (pc' := 5) (hb hy d9_4) rfl rfl rfl ?_
  have ok4 : own_ok l1 := hu2
  have ok5 : own_ok l2 := hu3
  refine o_virtual W1 (y := (⟨"java/lang/String", "equals", "(Ljava/lang/Object;)Z"⟩ : MethodName)) (z := (⟨"java/lang/String", "equals", "(Ljava/lang/Object;)Z"⟩ : MethodName)) (kc := 0) (ks := 0) (Q := fun v hh L => ((v = some (.int 1) ∧ l1 = l2) ∨ (v = some (.int 0) ∧ ¬ l1 = l2)) ∧ L = [] ∧ hh = h0) (w67 hw) (w68 hw) (o_nf W1 rfl (w70 hw)) (w70 hw) (w69 hw) (by decide) E_a4 (argsL := [(.ref a2)]) (StrChars.Road.eqW (W := 0) W1.2.2.2.1 (own_hE hw) (kI := 4) (w11 hw) E_a4 F_a4_value F_a4_coder V_a5 (own_cod ok4) (own_up ok4) ok4.2 E_a2 F_a2_value F_a2_coder V_a6 (own_cod ok5) (own_up ok5) ok5.2 (SgCS.ext W1.ox) NgCS (by decide) (by decide)) (by rw [hml]; rfl) (lenOf pd11 rfl) (S := []) rfl (by exact Nat.le_of_eq rfl) (pc' := 8) (hb hy d9_5) rfl (cells' := 0) (slots' := 0) rfl rfl (by decide) (by decide) (wy := []) (fun _ _ _ q => own_same q.2) all0 (fun _ _ => trivial) ?_
  intro v6 T6 h6 lo6 W6 K6 q6
  obtain rfl := own_eqv q6.1
  show Gl _ _ _ _ _ _ _ _ [(.int (own_eq l1 l2))]
  refine o_ifN W6 (pc' := 11) (hb hy d9_8) (XT.i0_eq_f hc7) rfl ?_
  refine o_aloadN W6 (pc' := 12) (hb hy d9_11) rfl rfl rfl ?_
  have c8 := (F_a1_epoch.keep K6 nin0)
  refine o_getF W6 (w58 hw) Via.refl c8 (pc' := 15) (hb hy d9_12) rfl ?_
  intro T9 W9
  refine o_aloadN W9 (pc' := 16) (hb hy d9_15) rfl rfl rfl ?_
  have c10 := (E_a7.keep K6)
  have c11 := (F_a7_value.keep K6 nin0)
  have c12 := (F_a7_coder.keep K6 nin0)
  have c13 := (V_a8.keep K6 nin0)
  have c15 := (E_a3.keep K6)
  have c16 := (F_a3_value.keep K6 nin0)
  have c17 := (F_a3_coder.keep K6 nin0)
  have c18 := (V_a9.keep K6 nin0)
  have ok20 : own_ok l3 := hu14
  have ok21 : own_ok l4 := hu19
  refine o_virtual W9 (y := (⟨"java/lang/String", "equals", "(Ljava/lang/Object;)Z"⟩ : MethodName)) (z := (⟨"java/lang/String", "equals", "(Ljava/lang/Object;)Z"⟩ : MethodName)) (kc := 0) (ks := 0) (Q := fun v hh L => ((v = some (.int 1) ∧ l3 = l4) ∨ (v = some (.int 0) ∧ ¬ l3 = l4)) ∧ L = [] ∧ hh = h6) (w67 hw) (w68 hw) (o_nf W9 rfl (w70 hw)) (w70 hw) (w69 hw) (by decide) c10 (argsL := [(.ref a3)]) (StrChars.Road.eqW (W := 0) W9.2.2.2.1 (own_hE hw) (kI := 4) (w11 hw) c10 c11 c12 c13 (own_cod ok20) (own_up ok20) ok20.2 c15 c16 c17 c18 (own_cod ok21) (own_up ok21) ok21.2 (SgCS.ext W9.ox) NgCS (by decide) (by decide)) (by rw [hml]; rfl) (lenOf pd11 rfl) (S := []) rfl (by exact Nat.le_of_eq rfl) (pc' := 19) (hb hy d9_16) rfl (cells' := 0) (slots' := 0) rfl rfl (by decide) (by decide) (wy := []) (fun _ _ _ q => own_same q.2) all0 (fun _ _ => trivial) ?_
  intro v22 T22 h22 lo22 W22 K22 q22
  obtain rfl := own_eqv q22.1
  show Gl _ _ _ _ _ _ _ _ [(.int (own_eq l3 l4))]
  refine o_ifN W22 (pc' := 22) (hb hy d9_19) (XT.i0_eq_f hc23) rfl ?_
  refine o_iconst W22 (v := 1) (pc' := 23) (hb hy d9_22) rfl rfl ?_
  refine o_goto W22 (pc' := 27) (hb hy d9_23) (by decide) rfl ?_
  exact o_retN W22 hlk (t := .boolean) hret (by simp) (z' := (1 : Int32)) (by decide) (hb hy d9_27) (by decide) (by decide) rfl
theorem rm_law (l : Launch) (Z : State) (a0 : Array Value) (hw : ∀ d ∈ tables_1, d.before a0 Z = true) (gCS p0 p1 p2 p3 : Int32) (p4 p5 : Int64) (h0 : Heap) (O0 : Old Z Z.heap.size h0) (SgCS : Sta Z Z.heap "java/lang/String" "COMPACT_STRINGS" "Z" (.int gCS)) (NgCS : ¬ (gCS = (0 : Int32))) :
    CtrW l Z consts_1 x code maxLocals ret tables_1 room_1 #[(.int p0), (.int p1), (.int p2), (.int p3), (.long p4), (.long p5)] h0 [] (fun v _ => v = some (.int 1)) := by
  refine CtrW.intro (L0 := #[.val (.int p0), .val (.int p1), .val (.int p2), .val (.int p3), .val (.long p4), .second, .val (.long p5), .second, .unset, .unset, .unset, .unset, .unset, .unset, .unset, .unset, .unset, .unset, .unset, .unset, .unset, .unset, .unset, .unset]) (plainFor_of_name pn2) O0 (own_entry rfl) ?_
  intro p e s m below meth c T0 V0 hy hml hret hlk hnm W0
  refine o_iloadN W0 (pc' := 1) (hb hy at_0) rfl rfl ?_
  refine o_iconst W0 (v := 3) (pc' := 2) (hb hy at_1) rfl rfl ?_
  refine o_iand W0 (v := (p0 &&& (3 : Int32))) (pc' := 3) (hb hy at_2) rfl rfl ?_
  refine o_iconst W0 (v := 3) (pc' := 4) (hb hy at_3) rfl rfl ?_
  refine o_irem W0 (v := ((p0 &&& (3 : Int32)) % (3 : Int32))) (pc' := 5) (hb hy at_4) (by decide) rfl rfl ?_
  refine o_istore W0 (L' := #[.val (.int p0), .val (.int p1), .val (.int p2), .val (.int p3), .val (.long p4), .second, .val (.long p5), .second, .val (.int ((p0 &&& (3 : Int32)) % (3 : Int32))), .unset, .unset, .unset, .unset, .unset, .unset, .unset, .unset, .unset, .unset, .unset, .unset, .unset, .unset, .unset]) (pc' := 7) (hb hy at_5) rfl rfl ?_
  refine o_iloadN W0 (pc' := 8) (hb hy at_7) rfl rfl ?_
  refine o_iconst W0 (v := 2) (pc' := 9) (hb hy at_8) rfl rfl ?_
  refine o_iushr W0 (v := ((p0.toUInt32 >>> ((2 : Int32) &&& 31).toUInt32).toInt32)) (pc' := 10) (hb hy at_9) rfl rfl ?_
  refine o_sipush W0 (v := 255) (pc' := 13) (hb hy at_10) (by decide) rfl ?_
  refine o_iand W0 (v := (((p0.toUInt32 >>> ((2 : Int32) &&& 31).toUInt32).toInt32) &&& (255 : Int32))) (pc' := 14) (hb hy at_13) rfl rfl ?_
  refine o_i2c W0 (v := (((p0.toUInt32 >>> ((2 : Int32) &&& 31).toUInt32).toInt32) &&& (255 : Int32))) (pc' := 15) (hb hy at_14) (own_i2c (own_b255 _)) rfl ?_
  refine o_istore W0 (L' := #[.val (.int p0), .val (.int p1), .val (.int p2), .val (.int p3), .val (.long p4), .second, .val (.long p5), .second, .val (.int ((p0 &&& (3 : Int32)) % (3 : Int32))), .val (.int (((p0.toUInt32 >>> ((2 : Int32) &&& 31).toUInt32).toInt32) &&& (255 : Int32))), .unset, .unset, .unset, .unset, .unset, .unset, .unset, .unset, .unset, .unset, .unset, .unset, .unset, .unset]) (pc' := 17) (hb hy at_15) rfl rfl ?_
  refine o_iloadN W0 (pc' := 18) (hb hy at_17) rfl rfl ?_
  refine o_bipush W0 (v := 10) (pc' := 20) (hb hy at_18) (by decide) rfl ?_
  refine o_iushr W0 (v := ((p0.toUInt32 >>> ((10 : Int32) &&& 31).toUInt32).toInt32)) (pc' := 21) (hb hy at_20) rfl rfl ?_
  refine o_sipush W0 (v := 255) (pc' := 24) (hb hy at_21) (by decide) rfl ?_
  refine o_iand W0 (v := (((p0.toUInt32 >>> ((10 : Int32) &&& 31).toUInt32).toInt32) &&& (255 : Int32))) (pc' := 25) (hb hy at_24) rfl rfl ?_
  refine o_i2c W0 (v := (((p0.toUInt32 >>> ((10 : Int32) &&& 31).toUInt32).toInt32) &&& (255 : Int32))) (pc' := 26) (hb hy at_25) (own_i2c (own_b255 _)) rfl ?_
  refine o_istore W0 (L' := #[.val (.int p0), .val (.int p1), .val (.int p2), .val (.int p3), .val (.long p4), .second, .val (.long p5), .second, .val (.int ((p0 &&& (3 : Int32)) % (3 : Int32))), .val (.int (((p0.toUInt32 >>> ((2 : Int32) &&& 31).toUInt32).toInt32) &&& (255 : Int32))), .val (.int (((p0.toUInt32 >>> ((10 : Int32) &&& 31).toUInt32).toInt32) &&& (255 : Int32))), .unset, .unset, .unset, .unset, .unset, .unset, .unset, .unset, .unset, .unset, .unset, .unset, .unset]) (pc' := 28) (hb hy at_26) rfl rfl ?_
  refine o_iloadN W0 (pc' := 29) (hb hy at_28) rfl rfl ?_
  refine o_iconst W0 (v := 3) (pc' := 30) (hb hy at_29) rfl rfl ?_
  refine o_iand W0 (v := (p1 &&& (3 : Int32))) (pc' := 31) (hb hy at_30) rfl rfl ?_
  refine o_iconst W0 (v := 3) (pc' := 32) (hb hy at_31) rfl rfl ?_
  refine o_irem W0 (v := ((p1 &&& (3 : Int32)) % (3 : Int32))) (pc' := 33) (hb hy at_32) (by decide) rfl rfl ?_
  refine o_istore W0 (L' := #[.val (.int p0), .val (.int p1), .val (.int p2), .val (.int p3), .val (.long p4), .second, .val (.long p5), .second, .val (.int ((p0 &&& (3 : Int32)) % (3 : Int32))), .val (.int (((p0.toUInt32 >>> ((2 : Int32) &&& 31).toUInt32).toInt32) &&& (255 : Int32))), .val (.int (((p0.toUInt32 >>> ((10 : Int32) &&& 31).toUInt32).toInt32) &&& (255 : Int32))), .val (.int ((p1 &&& (3 : Int32)) % (3 : Int32))), .unset, .unset, .unset, .unset, .unset, .unset, .unset, .unset, .unset, .unset, .unset, .unset]) (pc' := 35) (hb hy at_33) rfl rfl ?_
  refine o_iloadN W0 (pc' := 36) (hb hy at_35) rfl rfl ?_
  refine o_iconst W0 (v := 2) (pc' := 37) (hb hy at_36) rfl rfl ?_
  refine o_iushr W0 (v := ((p1.toUInt32 >>> ((2 : Int32) &&& 31).toUInt32).toInt32)) (pc' := 38) (hb hy at_37) rfl rfl ?_
  refine o_sipush W0 (v := 255) (pc' := 41) (hb hy at_38) (by decide) rfl ?_
  refine o_iand W0 (v := (((p1.toUInt32 >>> ((2 : Int32) &&& 31).toUInt32).toInt32) &&& (255 : Int32))) (pc' := 42) (hb hy at_41) rfl rfl ?_
  refine o_i2c W0 (v := (((p1.toUInt32 >>> ((2 : Int32) &&& 31).toUInt32).toInt32) &&& (255 : Int32))) (pc' := 43) (hb hy at_42) (own_i2c (own_b255 _)) rfl ?_
  refine o_istore W0 (L' := #[.val (.int p0), .val (.int p1), .val (.int p2), .val (.int p3), .val (.long p4), .second, .val (.long p5), .second, .val (.int ((p0 &&& (3 : Int32)) % (3 : Int32))), .val (.int (((p0.toUInt32 >>> ((2 : Int32) &&& 31).toUInt32).toInt32) &&& (255 : Int32))), .val (.int (((p0.toUInt32 >>> ((10 : Int32) &&& 31).toUInt32).toInt32) &&& (255 : Int32))), .val (.int ((p1 &&& (3 : Int32)) % (3 : Int32))), .val (.int (((p1.toUInt32 >>> ((2 : Int32) &&& 31).toUInt32).toInt32) &&& (255 : Int32))), .unset, .unset, .unset, .unset, .unset, .unset, .unset, .unset, .unset, .unset, .unset]) (pc' := 45) (hb hy at_43) rfl rfl ?_
  refine o_iloadN W0 (pc' := 46) (hb hy at_45) rfl rfl ?_
  refine o_bipush W0 (v := 10) (pc' := 48) (hb hy at_46) (by decide) rfl ?_
  refine o_iushr W0 (v := ((p1.toUInt32 >>> ((10 : Int32) &&& 31).toUInt32).toInt32)) (pc' := 49) (hb hy at_48) rfl rfl ?_
  refine o_sipush W0 (v := 255) (pc' := 52) (hb hy at_49) (by decide) rfl ?_
  refine o_iand W0 (v := (((p1.toUInt32 >>> ((10 : Int32) &&& 31).toUInt32).toInt32) &&& (255 : Int32))) (pc' := 53) (hb hy at_52) rfl rfl ?_
  refine o_i2c W0 (v := (((p1.toUInt32 >>> ((10 : Int32) &&& 31).toUInt32).toInt32) &&& (255 : Int32))) (pc' := 54) (hb hy at_53) (own_i2c (own_b255 _)) rfl ?_
  refine o_istore W0 (L' := #[.val (.int p0), .val (.int p1), .val (.int p2), .val (.int p3), .val (.long p4), .second, .val (.long p5), .second, .val (.int ((p0 &&& (3 : Int32)) % (3 : Int32))), .val (.int (((p0.toUInt32 >>> ((2 : Int32) &&& 31).toUInt32).toInt32) &&& (255 : Int32))), .val (.int (((p0.toUInt32 >>> ((10 : Int32) &&& 31).toUInt32).toInt32) &&& (255 : Int32))), .val (.int ((p1 &&& (3 : Int32)) % (3 : Int32))), .val (.int (((p1.toUInt32 >>> ((2 : Int32) &&& 31).toUInt32).toInt32) &&& (255 : Int32))), .val (.int (((p1.toUInt32 >>> ((10 : Int32) &&& 31).toUInt32).toInt32) &&& (255 : Int32))), .unset, .unset, .unset, .unset, .unset, .unset, .unset, .unset, .unset, .unset]) (pc' := 56) (hb hy at_54) rfl rfl ?_
  refine o_iloadN W0 (pc' := 57) (hb hy at_56) rfl rfl ?_
  refine o_iconst W0 (v := 3) (pc' := 58) (hb hy at_57) rfl rfl ?_
  refine o_iand W0 (v := (p2 &&& (3 : Int32))) (pc' := 59) (hb hy at_58) rfl rfl ?_
  refine o_istore W0 (L' := #[.val (.int p0), .val (.int p1), .val (.int p2), .val (.int p3), .val (.long p4), .second, .val (.long p5), .second, .val (.int ((p0 &&& (3 : Int32)) % (3 : Int32))), .val (.int (((p0.toUInt32 >>> ((2 : Int32) &&& 31).toUInt32).toInt32) &&& (255 : Int32))), .val (.int (((p0.toUInt32 >>> ((10 : Int32) &&& 31).toUInt32).toInt32) &&& (255 : Int32))), .val (.int ((p1 &&& (3 : Int32)) % (3 : Int32))), .val (.int (((p1.toUInt32 >>> ((2 : Int32) &&& 31).toUInt32).toInt32) &&& (255 : Int32))), .val (.int (((p1.toUInt32 >>> ((10 : Int32) &&& 31).toUInt32).toInt32) &&& (255 : Int32))), .val (.int (p2 &&& (3 : Int32))), .unset, .unset, .unset, .unset, .unset, .unset, .unset, .unset, .unset]) (pc' := 61) (hb hy at_59) rfl rfl ?_
  refine o_iload W0 (pc' := 63) (hb hy at_61) rfl rfl ?_
  refine o_merge (α := Int32 × Int32 × Int32) (fun v => own_3 v.1 ∧ own_b v.2.1 ∧ own_b v.2.2) 158 (fun v => #[.val (.int p0), .val (.int p1), .val (.int p2), .val (.int p3), .val (.long p4), .second, .val (.long p5), .second, .val (.int ((p0 &&& (3 : Int32)) % (3 : Int32))), .val (.int (((p0.toUInt32 >>> ((2 : Int32) &&& 31).toUInt32).toInt32) &&& (255 : Int32))), .val (.int (((p0.toUInt32 >>> ((10 : Int32) &&& 31).toUInt32).toInt32) &&& (255 : Int32))), .val (.int ((p1 &&& (3 : Int32)) % (3 : Int32))), .val (.int (((p1.toUInt32 >>> ((2 : Int32) &&& 31).toUInt32).toInt32) &&& (255 : Int32))), .val (.int (((p1.toUInt32 >>> ((10 : Int32) &&& 31).toUInt32).toInt32) &&& (255 : Int32))), .val (.int (p2 &&& (3 : Int32))), .val (.int v.1), .val (.int v.2.1), .val (.int v.2.2), .unset, .unset, .unset, .unset, .unset, .unset]) (fun v => []) (fun M1 => ?_) (fun v hm2 => ?_)
  · rcases (Classical.em ((p2 &&& (3 : Int32)) = (0 : Int32))).symm with he3 | he3
    · refine o_ifY W0 (pc' := 81) (hb hy at_63) (XT.i0_ne_t he3) (by decide) rfl ?_
      refine o_iload W0 (pc' := 83) (hb hy at_81) rfl rfl ?_
      refine o_iconst W0 (v := 1) (pc' := 84) (hb hy at_83) rfl rfl ?_
      rcases (Classical.em ((p2 &&& (3 : Int32)) = (1 : Int32))).symm with he4 | he4
      · refine o_icmpY W0 (pc' := 102) (hb hy at_84) (XT.ii_ne_t he4) (by decide) rfl ?_
        refine o_iload W0 (pc' := 104) (hb hy at_102) rfl rfl ?_
        refine o_iconst W0 (v := 2) (pc' := 105) (hb hy at_104) rfl rfl ?_
        rcases (Classical.em ((p2 &&& (3 : Int32)) = (2 : Int32))).symm with he5 | he5
        · refine o_icmpY W0 (pc' := 141) (hb hy at_105) (XT.ii_ne_t he5) (by decide) rfl ?_
          refine o_iloadN W0 (pc' := 142) (hb hy at_141) rfl rfl ?_
          refine o_iconst W0 (v := 2) (pc' := 143) (hb hy at_142) rfl rfl ?_
          refine o_iushr W0 (v := ((p2.toUInt32 >>> ((2 : Int32) &&& 31).toUInt32).toInt32)) (pc' := 144) (hb hy at_143) rfl rfl ?_
          refine o_iconst W0 (v := 3) (pc' := 145) (hb hy at_144) rfl rfl ?_
          refine o_iand W0 (v := (((p2.toUInt32 >>> ((2 : Int32) &&& 31).toUInt32).toInt32) &&& (3 : Int32))) (pc' := 146) (hb hy at_145) rfl rfl ?_
          refine o_iconst W0 (v := 3) (pc' := 147) (hb hy at_146) rfl rfl ?_
          refine o_irem W0 (v := ((((p2.toUInt32 >>> ((2 : Int32) &&& 31).toUInt32).toInt32) &&& (3 : Int32)) % (3 : Int32))) (pc' := 148) (hb hy at_147) (by decide) rfl rfl ?_
          refine o_istore W0 (L' := #[.val (.int p0), .val (.int p1), .val (.int p2), .val (.int p3), .val (.long p4), .second, .val (.long p5), .second, .val (.int ((p0 &&& (3 : Int32)) % (3 : Int32))), .val (.int (((p0.toUInt32 >>> ((2 : Int32) &&& 31).toUInt32).toInt32) &&& (255 : Int32))), .val (.int (((p0.toUInt32 >>> ((10 : Int32) &&& 31).toUInt32).toInt32) &&& (255 : Int32))), .val (.int ((p1 &&& (3 : Int32)) % (3 : Int32))), .val (.int (((p1.toUInt32 >>> ((2 : Int32) &&& 31).toUInt32).toInt32) &&& (255 : Int32))), .val (.int (((p1.toUInt32 >>> ((10 : Int32) &&& 31).toUInt32).toInt32) &&& (255 : Int32))), .val (.int (p2 &&& (3 : Int32))), .val (.int ((((p2.toUInt32 >>> ((2 : Int32) &&& 31).toUInt32).toInt32) &&& (3 : Int32)) % (3 : Int32))), .unset, .unset, .unset, .unset, .unset, .unset, .unset, .unset]) (pc' := 150) (hb hy at_148) rfl rfl ?_
          refine o_iload W0 (pc' := 152) (hb hy at_150) rfl rfl ?_
          refine o_istore W0 (L' := #[.val (.int p0), .val (.int p1), .val (.int p2), .val (.int p3), .val (.long p4), .second, .val (.long p5), .second, .val (.int ((p0 &&& (3 : Int32)) % (3 : Int32))), .val (.int (((p0.toUInt32 >>> ((2 : Int32) &&& 31).toUInt32).toInt32) &&& (255 : Int32))), .val (.int (((p0.toUInt32 >>> ((10 : Int32) &&& 31).toUInt32).toInt32) &&& (255 : Int32))), .val (.int ((p1 &&& (3 : Int32)) % (3 : Int32))), .val (.int (((p1.toUInt32 >>> ((2 : Int32) &&& 31).toUInt32).toInt32) &&& (255 : Int32))), .val (.int (((p1.toUInt32 >>> ((10 : Int32) &&& 31).toUInt32).toInt32) &&& (255 : Int32))), .val (.int (p2 &&& (3 : Int32))), .val (.int ((((p2.toUInt32 >>> ((2 : Int32) &&& 31).toUInt32).toInt32) &&& (3 : Int32)) % (3 : Int32))), .val (.int (((p0.toUInt32 >>> ((2 : Int32) &&& 31).toUInt32).toInt32) &&& (255 : Int32))), .unset, .unset, .unset, .unset, .unset, .unset, .unset]) (pc' := 154) (hb hy at_152) rfl rfl ?_
          refine o_iload W0 (pc' := 156) (hb hy at_154) rfl rfl ?_
          refine o_istore W0 (L' := #[.val (.int p0), .val (.int p1), .val (.int p2), .val (.int p3), .val (.long p4), .second, .val (.long p5), .second, .val (.int ((p0 &&& (3 : Int32)) % (3 : Int32))), .val (.int (((p0.toUInt32 >>> ((2 : Int32) &&& 31).toUInt32).toInt32) &&& (255 : Int32))), .val (.int (((p0.toUInt32 >>> ((10 : Int32) &&& 31).toUInt32).toInt32) &&& (255 : Int32))), .val (.int ((p1 &&& (3 : Int32)) % (3 : Int32))), .val (.int (((p1.toUInt32 >>> ((2 : Int32) &&& 31).toUInt32).toInt32) &&& (255 : Int32))), .val (.int (((p1.toUInt32 >>> ((10 : Int32) &&& 31).toUInt32).toInt32) &&& (255 : Int32))), .val (.int (p2 &&& (3 : Int32))), .val (.int ((((p2.toUInt32 >>> ((2 : Int32) &&& 31).toUInt32).toInt32) &&& (3 : Int32)) % (3 : Int32))), .val (.int (((p0.toUInt32 >>> ((2 : Int32) &&& 31).toUInt32).toInt32) &&& (255 : Int32))), .val (.int (((p0.toUInt32 >>> ((10 : Int32) &&& 31).toUInt32).toInt32) &&& (255 : Int32))), .unset, .unset, .unset, .unset, .unset, .unset]) (pc' := 158) (hb hy at_156) rfl rfl ?_
          exact M1 (((((p2.toUInt32 >>> ((2 : Int32) &&& 31).toUInt32).toInt32) &&& (3 : Int32)) % (3 : Int32)), (((p0.toUInt32 >>> ((2 : Int32) &&& 31).toUInt32).toInt32) &&& (255 : Int32)), (((p0.toUInt32 >>> ((10 : Int32) &&& 31).toUInt32).toInt32) &&& (255 : Int32))) ⟨(own_and33 _), (own_b255 _), (own_b255 _)⟩
        · refine o_icmpN W0 (pc' := 108) (hb hy at_105) (XT.ii_ne_f he5) rfl ?_
          refine o_iloadN W0 (pc' := 109) (hb hy at_108) rfl rfl ?_
          refine o_iconst W0 (v := 2) (pc' := 110) (hb hy at_109) rfl rfl ?_
          refine o_iushr W0 (v := ((p2.toUInt32 >>> ((2 : Int32) &&& 31).toUInt32).toInt32)) (pc' := 111) (hb hy at_110) rfl rfl ?_
          refine o_iconst W0 (v := 3) (pc' := 112) (hb hy at_111) rfl rfl ?_
          refine o_iand W0 (v := (((p2.toUInt32 >>> ((2 : Int32) &&& 31).toUInt32).toInt32) &&& (3 : Int32))) (pc' := 113) (hb hy at_112) rfl rfl ?_
          refine o_iconst W0 (v := 3) (pc' := 114) (hb hy at_113) rfl rfl ?_
          refine o_irem W0 (v := ((((p2.toUInt32 >>> ((2 : Int32) &&& 31).toUInt32).toInt32) &&& (3 : Int32)) % (3 : Int32))) (pc' := 115) (hb hy at_114) (by decide) rfl rfl ?_
          refine o_istore W0 (L' := #[.val (.int p0), .val (.int p1), .val (.int p2), .val (.int p3), .val (.long p4), .second, .val (.long p5), .second, .val (.int ((p0 &&& (3 : Int32)) % (3 : Int32))), .val (.int (((p0.toUInt32 >>> ((2 : Int32) &&& 31).toUInt32).toInt32) &&& (255 : Int32))), .val (.int (((p0.toUInt32 >>> ((10 : Int32) &&& 31).toUInt32).toInt32) &&& (255 : Int32))), .val (.int ((p1 &&& (3 : Int32)) % (3 : Int32))), .val (.int (((p1.toUInt32 >>> ((2 : Int32) &&& 31).toUInt32).toInt32) &&& (255 : Int32))), .val (.int (((p1.toUInt32 >>> ((10 : Int32) &&& 31).toUInt32).toInt32) &&& (255 : Int32))), .val (.int (p2 &&& (3 : Int32))), .val (.int ((((p2.toUInt32 >>> ((2 : Int32) &&& 31).toUInt32).toInt32) &&& (3 : Int32)) % (3 : Int32))), .unset, .unset, .unset, .unset, .unset, .unset, .unset, .unset]) (pc' := 117) (hb hy at_115) rfl rfl ?_
          refine o_iloadN W0 (pc' := 118) (hb hy at_117) rfl rfl ?_
          refine o_iconst W0 (v := 4) (pc' := 119) (hb hy at_118) rfl rfl ?_
          refine o_iushr W0 (v := ((p2.toUInt32 >>> ((4 : Int32) &&& 31).toUInt32).toInt32)) (pc' := 120) (hb hy at_119) rfl rfl ?_
          refine o_sipush W0 (v := 255) (pc' := 123) (hb hy at_120) (by decide) rfl ?_
          refine o_iand W0 (v := (((p2.toUInt32 >>> ((4 : Int32) &&& 31).toUInt32).toInt32) &&& (255 : Int32))) (pc' := 124) (hb hy at_123) rfl rfl ?_
          refine o_i2c W0 (v := (((p2.toUInt32 >>> ((4 : Int32) &&& 31).toUInt32).toInt32) &&& (255 : Int32))) (pc' := 125) (hb hy at_124) (own_i2c (own_b255 _)) rfl ?_
          refine o_istore W0 (L' := #[.val (.int p0), .val (.int p1), .val (.int p2), .val (.int p3), .val (.long p4), .second, .val (.long p5), .second, .val (.int ((p0 &&& (3 : Int32)) % (3 : Int32))), .val (.int (((p0.toUInt32 >>> ((2 : Int32) &&& 31).toUInt32).toInt32) &&& (255 : Int32))), .val (.int (((p0.toUInt32 >>> ((10 : Int32) &&& 31).toUInt32).toInt32) &&& (255 : Int32))), .val (.int ((p1 &&& (3 : Int32)) % (3 : Int32))), .val (.int (((p1.toUInt32 >>> ((2 : Int32) &&& 31).toUInt32).toInt32) &&& (255 : Int32))), .val (.int (((p1.toUInt32 >>> ((10 : Int32) &&& 31).toUInt32).toInt32) &&& (255 : Int32))), .val (.int (p2 &&& (3 : Int32))), .val (.int ((((p2.toUInt32 >>> ((2 : Int32) &&& 31).toUInt32).toInt32) &&& (3 : Int32)) % (3 : Int32))), .val (.int (((p2.toUInt32 >>> ((4 : Int32) &&& 31).toUInt32).toInt32) &&& (255 : Int32))), .unset, .unset, .unset, .unset, .unset, .unset, .unset]) (pc' := 127) (hb hy at_125) rfl rfl ?_
          refine o_iloadN W0 (pc' := 128) (hb hy at_127) rfl rfl ?_
          refine o_bipush W0 (v := 12) (pc' := 130) (hb hy at_128) (by decide) rfl ?_
          refine o_iushr W0 (v := ((p2.toUInt32 >>> ((12 : Int32) &&& 31).toUInt32).toInt32)) (pc' := 131) (hb hy at_130) rfl rfl ?_
          refine o_sipush W0 (v := 255) (pc' := 134) (hb hy at_131) (by decide) rfl ?_
          refine o_iand W0 (v := (((p2.toUInt32 >>> ((12 : Int32) &&& 31).toUInt32).toInt32) &&& (255 : Int32))) (pc' := 135) (hb hy at_134) rfl rfl ?_
          refine o_i2c W0 (v := (((p2.toUInt32 >>> ((12 : Int32) &&& 31).toUInt32).toInt32) &&& (255 : Int32))) (pc' := 136) (hb hy at_135) (own_i2c (own_b255 _)) rfl ?_
          refine o_istore W0 (L' := #[.val (.int p0), .val (.int p1), .val (.int p2), .val (.int p3), .val (.long p4), .second, .val (.long p5), .second, .val (.int ((p0 &&& (3 : Int32)) % (3 : Int32))), .val (.int (((p0.toUInt32 >>> ((2 : Int32) &&& 31).toUInt32).toInt32) &&& (255 : Int32))), .val (.int (((p0.toUInt32 >>> ((10 : Int32) &&& 31).toUInt32).toInt32) &&& (255 : Int32))), .val (.int ((p1 &&& (3 : Int32)) % (3 : Int32))), .val (.int (((p1.toUInt32 >>> ((2 : Int32) &&& 31).toUInt32).toInt32) &&& (255 : Int32))), .val (.int (((p1.toUInt32 >>> ((10 : Int32) &&& 31).toUInt32).toInt32) &&& (255 : Int32))), .val (.int (p2 &&& (3 : Int32))), .val (.int ((((p2.toUInt32 >>> ((2 : Int32) &&& 31).toUInt32).toInt32) &&& (3 : Int32)) % (3 : Int32))), .val (.int (((p2.toUInt32 >>> ((4 : Int32) &&& 31).toUInt32).toInt32) &&& (255 : Int32))), .val (.int (((p2.toUInt32 >>> ((12 : Int32) &&& 31).toUInt32).toInt32) &&& (255 : Int32))), .unset, .unset, .unset, .unset, .unset, .unset]) (pc' := 138) (hb hy at_136) rfl rfl ?_
          refine o_goto W0 (pc' := 158) (hb hy at_138) (by decide) rfl ?_
          exact M1 (((((p2.toUInt32 >>> ((2 : Int32) &&& 31).toUInt32).toInt32) &&& (3 : Int32)) % (3 : Int32)), (((p2.toUInt32 >>> ((4 : Int32) &&& 31).toUInt32).toInt32) &&& (255 : Int32)), (((p2.toUInt32 >>> ((12 : Int32) &&& 31).toUInt32).toInt32) &&& (255 : Int32))) ⟨(own_and33 _), (own_b255 _), (own_b255 _)⟩
      · refine o_icmpN W0 (pc' := 87) (hb hy at_84) (XT.ii_ne_f he4) rfl ?_
        refine o_iload W0 (pc' := 89) (hb hy at_87) rfl rfl ?_
        refine o_istore W0 (L' := #[.val (.int p0), .val (.int p1), .val (.int p2), .val (.int p3), .val (.long p4), .second, .val (.long p5), .second, .val (.int ((p0 &&& (3 : Int32)) % (3 : Int32))), .val (.int (((p0.toUInt32 >>> ((2 : Int32) &&& 31).toUInt32).toInt32) &&& (255 : Int32))), .val (.int (((p0.toUInt32 >>> ((10 : Int32) &&& 31).toUInt32).toInt32) &&& (255 : Int32))), .val (.int ((p1 &&& (3 : Int32)) % (3 : Int32))), .val (.int (((p1.toUInt32 >>> ((2 : Int32) &&& 31).toUInt32).toInt32) &&& (255 : Int32))), .val (.int (((p1.toUInt32 >>> ((10 : Int32) &&& 31).toUInt32).toInt32) &&& (255 : Int32))), .val (.int (p2 &&& (3 : Int32))), .val (.int ((p1 &&& (3 : Int32)) % (3 : Int32))), .unset, .unset, .unset, .unset, .unset, .unset, .unset, .unset]) (pc' := 91) (hb hy at_89) rfl rfl ?_
        refine o_iload W0 (pc' := 93) (hb hy at_91) rfl rfl ?_
        refine o_istore W0 (L' := #[.val (.int p0), .val (.int p1), .val (.int p2), .val (.int p3), .val (.long p4), .second, .val (.long p5), .second, .val (.int ((p0 &&& (3 : Int32)) % (3 : Int32))), .val (.int (((p0.toUInt32 >>> ((2 : Int32) &&& 31).toUInt32).toInt32) &&& (255 : Int32))), .val (.int (((p0.toUInt32 >>> ((10 : Int32) &&& 31).toUInt32).toInt32) &&& (255 : Int32))), .val (.int ((p1 &&& (3 : Int32)) % (3 : Int32))), .val (.int (((p1.toUInt32 >>> ((2 : Int32) &&& 31).toUInt32).toInt32) &&& (255 : Int32))), .val (.int (((p1.toUInt32 >>> ((10 : Int32) &&& 31).toUInt32).toInt32) &&& (255 : Int32))), .val (.int (p2 &&& (3 : Int32))), .val (.int ((p1 &&& (3 : Int32)) % (3 : Int32))), .val (.int (((p1.toUInt32 >>> ((2 : Int32) &&& 31).toUInt32).toInt32) &&& (255 : Int32))), .unset, .unset, .unset, .unset, .unset, .unset, .unset]) (pc' := 95) (hb hy at_93) rfl rfl ?_
        refine o_iload W0 (pc' := 97) (hb hy at_95) rfl rfl ?_
        refine o_istore W0 (L' := #[.val (.int p0), .val (.int p1), .val (.int p2), .val (.int p3), .val (.long p4), .second, .val (.long p5), .second, .val (.int ((p0 &&& (3 : Int32)) % (3 : Int32))), .val (.int (((p0.toUInt32 >>> ((2 : Int32) &&& 31).toUInt32).toInt32) &&& (255 : Int32))), .val (.int (((p0.toUInt32 >>> ((10 : Int32) &&& 31).toUInt32).toInt32) &&& (255 : Int32))), .val (.int ((p1 &&& (3 : Int32)) % (3 : Int32))), .val (.int (((p1.toUInt32 >>> ((2 : Int32) &&& 31).toUInt32).toInt32) &&& (255 : Int32))), .val (.int (((p1.toUInt32 >>> ((10 : Int32) &&& 31).toUInt32).toInt32) &&& (255 : Int32))), .val (.int (p2 &&& (3 : Int32))), .val (.int ((p1 &&& (3 : Int32)) % (3 : Int32))), .val (.int (((p1.toUInt32 >>> ((2 : Int32) &&& 31).toUInt32).toInt32) &&& (255 : Int32))), .val (.int (((p1.toUInt32 >>> ((10 : Int32) &&& 31).toUInt32).toInt32) &&& (255 : Int32))), .unset, .unset, .unset, .unset, .unset, .unset]) (pc' := 99) (hb hy at_97) rfl rfl ?_
        refine o_goto W0 (pc' := 158) (hb hy at_99) (by decide) rfl ?_
        exact M1 (((p1 &&& (3 : Int32)) % (3 : Int32)), (((p1.toUInt32 >>> ((2 : Int32) &&& 31).toUInt32).toInt32) &&& (255 : Int32)), (((p1.toUInt32 >>> ((10 : Int32) &&& 31).toUInt32).toInt32) &&& (255 : Int32))) ⟨(own_and33 _), (own_b255 _), (own_b255 _)⟩
    · refine o_ifN W0 (pc' := 66) (hb hy at_63) (XT.i0_ne_f he3) rfl ?_
      refine o_iload W0 (pc' := 68) (hb hy at_66) rfl rfl ?_
      refine o_istore W0 (L' := #[.val (.int p0), .val (.int p1), .val (.int p2), .val (.int p3), .val (.long p4), .second, .val (.long p5), .second, .val (.int ((p0 &&& (3 : Int32)) % (3 : Int32))), .val (.int (((p0.toUInt32 >>> ((2 : Int32) &&& 31).toUInt32).toInt32) &&& (255 : Int32))), .val (.int (((p0.toUInt32 >>> ((10 : Int32) &&& 31).toUInt32).toInt32) &&& (255 : Int32))), .val (.int ((p1 &&& (3 : Int32)) % (3 : Int32))), .val (.int (((p1.toUInt32 >>> ((2 : Int32) &&& 31).toUInt32).toInt32) &&& (255 : Int32))), .val (.int (((p1.toUInt32 >>> ((10 : Int32) &&& 31).toUInt32).toInt32) &&& (255 : Int32))), .val (.int (p2 &&& (3 : Int32))), .val (.int ((p0 &&& (3 : Int32)) % (3 : Int32))), .unset, .unset, .unset, .unset, .unset, .unset, .unset, .unset]) (pc' := 70) (hb hy at_68) rfl rfl ?_
      refine o_iload W0 (pc' := 72) (hb hy at_70) rfl rfl ?_
      refine o_istore W0 (L' := #[.val (.int p0), .val (.int p1), .val (.int p2), .val (.int p3), .val (.long p4), .second, .val (.long p5), .second, .val (.int ((p0 &&& (3 : Int32)) % (3 : Int32))), .val (.int (((p0.toUInt32 >>> ((2 : Int32) &&& 31).toUInt32).toInt32) &&& (255 : Int32))), .val (.int (((p0.toUInt32 >>> ((10 : Int32) &&& 31).toUInt32).toInt32) &&& (255 : Int32))), .val (.int ((p1 &&& (3 : Int32)) % (3 : Int32))), .val (.int (((p1.toUInt32 >>> ((2 : Int32) &&& 31).toUInt32).toInt32) &&& (255 : Int32))), .val (.int (((p1.toUInt32 >>> ((10 : Int32) &&& 31).toUInt32).toInt32) &&& (255 : Int32))), .val (.int (p2 &&& (3 : Int32))), .val (.int ((p0 &&& (3 : Int32)) % (3 : Int32))), .val (.int (((p0.toUInt32 >>> ((2 : Int32) &&& 31).toUInt32).toInt32) &&& (255 : Int32))), .unset, .unset, .unset, .unset, .unset, .unset, .unset]) (pc' := 74) (hb hy at_72) rfl rfl ?_
      refine o_iload W0 (pc' := 76) (hb hy at_74) rfl rfl ?_
      refine o_istore W0 (L' := #[.val (.int p0), .val (.int p1), .val (.int p2), .val (.int p3), .val (.long p4), .second, .val (.long p5), .second, .val (.int ((p0 &&& (3 : Int32)) % (3 : Int32))), .val (.int (((p0.toUInt32 >>> ((2 : Int32) &&& 31).toUInt32).toInt32) &&& (255 : Int32))), .val (.int (((p0.toUInt32 >>> ((10 : Int32) &&& 31).toUInt32).toInt32) &&& (255 : Int32))), .val (.int ((p1 &&& (3 : Int32)) % (3 : Int32))), .val (.int (((p1.toUInt32 >>> ((2 : Int32) &&& 31).toUInt32).toInt32) &&& (255 : Int32))), .val (.int (((p1.toUInt32 >>> ((10 : Int32) &&& 31).toUInt32).toInt32) &&& (255 : Int32))), .val (.int (p2 &&& (3 : Int32))), .val (.int ((p0 &&& (3 : Int32)) % (3 : Int32))), .val (.int (((p0.toUInt32 >>> ((2 : Int32) &&& 31).toUInt32).toInt32) &&& (255 : Int32))), .val (.int (((p0.toUInt32 >>> ((10 : Int32) &&& 31).toUInt32).toInt32) &&& (255 : Int32))), .unset, .unset, .unset, .unset, .unset, .unset]) (pc' := 78) (hb hy at_76) rfl rfl ?_
      refine o_goto W0 (pc' := 158) (hb hy at_78) (by decide) rfl ?_
      exact M1 (((p0 &&& (3 : Int32)) % (3 : Int32)), (((p0.toUInt32 >>> ((2 : Int32) &&& 31).toUInt32).toInt32) &&& (255 : Int32)), (((p0.toUInt32 >>> ((10 : Int32) &&& 31).toUInt32).toInt32) &&& (255 : Int32))) ⟨(own_and33 _), (own_b255 _), (own_b255 _)⟩
  obtain ⟨n3, u0, u1⟩ := v
  have hm2 : own_3 n3 ∧ own_b u0 ∧ own_b u1 := hm2
  show Gl _ _ _ _ _ _ _ #[.val (.int p0), .val (.int p1), .val (.int p2), .val (.int p3), .val (.long p4), .second, .val (.long p5), .second, .val (.int ((p0 &&& (3 : Int32)) % (3 : Int32))), .val (.int (((p0.toUInt32 >>> ((2 : Int32) &&& 31).toUInt32).toInt32) &&& (255 : Int32))), .val (.int (((p0.toUInt32 >>> ((10 : Int32) &&& 31).toUInt32).toInt32) &&& (255 : Int32))), .val (.int ((p1 &&& (3 : Int32)) % (3 : Int32))), .val (.int (((p1.toUInt32 >>> ((2 : Int32) &&& 31).toUInt32).toInt32) &&& (255 : Int32))), .val (.int (((p1.toUInt32 >>> ((10 : Int32) &&& 31).toUInt32).toInt32) &&& (255 : Int32))), .val (.int (p2 &&& (3 : Int32))), .val (.int n3), .val (.int u0), .val (.int u1), .unset, .unset, .unset, .unset, .unset, .unset] []
  refine o_iloadN W0 (pc' := 159) (hb hy at_158) rfl rfl ?_
  refine o_iconst W0 (v := 3) (pc' := 160) (hb hy at_159) rfl rfl ?_
  refine o_iand W0 (v := (p3 &&& (3 : Int32))) (pc' := 161) (hb hy at_160) rfl rfl ?_
  refine o_istore W0 (L' := #[.val (.int p0), .val (.int p1), .val (.int p2), .val (.int p3), .val (.long p4), .second, .val (.long p5), .second, .val (.int ((p0 &&& (3 : Int32)) % (3 : Int32))), .val (.int (((p0.toUInt32 >>> ((2 : Int32) &&& 31).toUInt32).toInt32) &&& (255 : Int32))), .val (.int (((p0.toUInt32 >>> ((10 : Int32) &&& 31).toUInt32).toInt32) &&& (255 : Int32))), .val (.int ((p1 &&& (3 : Int32)) % (3 : Int32))), .val (.int (((p1.toUInt32 >>> ((2 : Int32) &&& 31).toUInt32).toInt32) &&& (255 : Int32))), .val (.int (((p1.toUInt32 >>> ((10 : Int32) &&& 31).toUInt32).toInt32) &&& (255 : Int32))), .val (.int (p2 &&& (3 : Int32))), .val (.int n3), .val (.int u0), .val (.int u1), .val (.int (p3 &&& (3 : Int32))), .unset, .unset, .unset, .unset, .unset]) (pc' := 163) (hb hy at_161) rfl rfl ?_
  refine o_iload W0 (pc' := 165) (hb hy at_163) rfl rfl ?_
  refine o_merge (α := Int32 × Int32 × Int32) (fun v => own_3 v.1 ∧ own_b v.2.1 ∧ own_b v.2.2) 260 (fun v => #[.val (.int p0), .val (.int p1), .val (.int p2), .val (.int p3), .val (.long p4), .second, .val (.long p5), .second, .val (.int ((p0 &&& (3 : Int32)) % (3 : Int32))), .val (.int (((p0.toUInt32 >>> ((2 : Int32) &&& 31).toUInt32).toInt32) &&& (255 : Int32))), .val (.int (((p0.toUInt32 >>> ((10 : Int32) &&& 31).toUInt32).toInt32) &&& (255 : Int32))), .val (.int ((p1 &&& (3 : Int32)) % (3 : Int32))), .val (.int (((p1.toUInt32 >>> ((2 : Int32) &&& 31).toUInt32).toInt32) &&& (255 : Int32))), .val (.int (((p1.toUInt32 >>> ((10 : Int32) &&& 31).toUInt32).toInt32) &&& (255 : Int32))), .val (.int (p2 &&& (3 : Int32))), .val (.int n3), .val (.int u0), .val (.int u1), .val (.int (p3 &&& (3 : Int32))), .val (.int v.1), .val (.int v.2.1), .val (.int v.2.2), .unset, .unset]) (fun v => []) (fun M6 => ?_) (fun v hm7 => ?_)
  · rcases (Classical.em ((p3 &&& (3 : Int32)) = (0 : Int32))).symm with he8 | he8
    · refine o_ifY W0 (pc' := 183) (hb hy at_165) (XT.i0_ne_t he8) (by decide) rfl ?_
      refine o_iload W0 (pc' := 185) (hb hy at_183) rfl rfl ?_
      refine o_iconst W0 (v := 1) (pc' := 186) (hb hy at_185) rfl rfl ?_
      rcases (Classical.em ((p3 &&& (3 : Int32)) = (1 : Int32))).symm with he9 | he9
      · refine o_icmpY W0 (pc' := 204) (hb hy at_186) (XT.ii_ne_t he9) (by decide) rfl ?_
        refine o_iload W0 (pc' := 206) (hb hy at_204) rfl rfl ?_
        refine o_iconst W0 (v := 2) (pc' := 207) (hb hy at_206) rfl rfl ?_
        rcases (Classical.em ((p3 &&& (3 : Int32)) = (2 : Int32))).symm with he10 | he10
        · refine o_icmpY W0 (pc' := 243) (hb hy at_207) (XT.ii_ne_t he10) (by decide) rfl ?_
          refine o_iloadN W0 (pc' := 244) (hb hy at_243) rfl rfl ?_
          refine o_iconst W0 (v := 2) (pc' := 245) (hb hy at_244) rfl rfl ?_
          refine o_iushr W0 (v := ((p3.toUInt32 >>> ((2 : Int32) &&& 31).toUInt32).toInt32)) (pc' := 246) (hb hy at_245) rfl rfl ?_
          refine o_iconst W0 (v := 3) (pc' := 247) (hb hy at_246) rfl rfl ?_
          refine o_iand W0 (v := (((p3.toUInt32 >>> ((2 : Int32) &&& 31).toUInt32).toInt32) &&& (3 : Int32))) (pc' := 248) (hb hy at_247) rfl rfl ?_
          refine o_iconst W0 (v := 3) (pc' := 249) (hb hy at_248) rfl rfl ?_
          refine o_irem W0 (v := ((((p3.toUInt32 >>> ((2 : Int32) &&& 31).toUInt32).toInt32) &&& (3 : Int32)) % (3 : Int32))) (pc' := 250) (hb hy at_249) (by decide) rfl rfl ?_
          refine o_istore W0 (L' := #[.val (.int p0), .val (.int p1), .val (.int p2), .val (.int p3), .val (.long p4), .second, .val (.long p5), .second, .val (.int ((p0 &&& (3 : Int32)) % (3 : Int32))), .val (.int (((p0.toUInt32 >>> ((2 : Int32) &&& 31).toUInt32).toInt32) &&& (255 : Int32))), .val (.int (((p0.toUInt32 >>> ((10 : Int32) &&& 31).toUInt32).toInt32) &&& (255 : Int32))), .val (.int ((p1 &&& (3 : Int32)) % (3 : Int32))), .val (.int (((p1.toUInt32 >>> ((2 : Int32) &&& 31).toUInt32).toInt32) &&& (255 : Int32))), .val (.int (((p1.toUInt32 >>> ((10 : Int32) &&& 31).toUInt32).toInt32) &&& (255 : Int32))), .val (.int (p2 &&& (3 : Int32))), .val (.int n3), .val (.int u0), .val (.int u1), .val (.int (p3 &&& (3 : Int32))), .val (.int ((((p3.toUInt32 >>> ((2 : Int32) &&& 31).toUInt32).toInt32) &&& (3 : Int32)) % (3 : Int32))), .unset, .unset, .unset, .unset]) (pc' := 252) (hb hy at_250) rfl rfl ?_
          refine o_iload W0 (pc' := 254) (hb hy at_252) rfl rfl ?_
          refine o_istore W0 (L' := #[.val (.int p0), .val (.int p1), .val (.int p2), .val (.int p3), .val (.long p4), .second, .val (.long p5), .second, .val (.int ((p0 &&& (3 : Int32)) % (3 : Int32))), .val (.int (((p0.toUInt32 >>> ((2 : Int32) &&& 31).toUInt32).toInt32) &&& (255 : Int32))), .val (.int (((p0.toUInt32 >>> ((10 : Int32) &&& 31).toUInt32).toInt32) &&& (255 : Int32))), .val (.int ((p1 &&& (3 : Int32)) % (3 : Int32))), .val (.int (((p1.toUInt32 >>> ((2 : Int32) &&& 31).toUInt32).toInt32) &&& (255 : Int32))), .val (.int (((p1.toUInt32 >>> ((10 : Int32) &&& 31).toUInt32).toInt32) &&& (255 : Int32))), .val (.int (p2 &&& (3 : Int32))), .val (.int n3), .val (.int u0), .val (.int u1), .val (.int (p3 &&& (3 : Int32))), .val (.int ((((p3.toUInt32 >>> ((2 : Int32) &&& 31).toUInt32).toInt32) &&& (3 : Int32)) % (3 : Int32))), .val (.int (((p1.toUInt32 >>> ((2 : Int32) &&& 31).toUInt32).toInt32) &&& (255 : Int32))), .unset, .unset, .unset]) (pc' := 256) (hb hy at_254) rfl rfl ?_
          refine o_iload W0 (pc' := 258) (hb hy at_256) rfl rfl ?_
          refine o_istore W0 (L' := #[.val (.int p0), .val (.int p1), .val (.int p2), .val (.int p3), .val (.long p4), .second, .val (.long p5), .second, .val (.int ((p0 &&& (3 : Int32)) % (3 : Int32))), .val (.int (((p0.toUInt32 >>> ((2 : Int32) &&& 31).toUInt32).toInt32) &&& (255 : Int32))), .val (.int (((p0.toUInt32 >>> ((10 : Int32) &&& 31).toUInt32).toInt32) &&& (255 : Int32))), .val (.int ((p1 &&& (3 : Int32)) % (3 : Int32))), .val (.int (((p1.toUInt32 >>> ((2 : Int32) &&& 31).toUInt32).toInt32) &&& (255 : Int32))), .val (.int (((p1.toUInt32 >>> ((10 : Int32) &&& 31).toUInt32).toInt32) &&& (255 : Int32))), .val (.int (p2 &&& (3 : Int32))), .val (.int n3), .val (.int u0), .val (.int u1), .val (.int (p3 &&& (3 : Int32))), .val (.int ((((p3.toUInt32 >>> ((2 : Int32) &&& 31).toUInt32).toInt32) &&& (3 : Int32)) % (3 : Int32))), .val (.int (((p1.toUInt32 >>> ((2 : Int32) &&& 31).toUInt32).toInt32) &&& (255 : Int32))), .val (.int (((p1.toUInt32 >>> ((10 : Int32) &&& 31).toUInt32).toInt32) &&& (255 : Int32))), .unset, .unset]) (pc' := 260) (hb hy at_258) rfl rfl ?_
          exact M6 (((((p3.toUInt32 >>> ((2 : Int32) &&& 31).toUInt32).toInt32) &&& (3 : Int32)) % (3 : Int32)), (((p1.toUInt32 >>> ((2 : Int32) &&& 31).toUInt32).toInt32) &&& (255 : Int32)), (((p1.toUInt32 >>> ((10 : Int32) &&& 31).toUInt32).toInt32) &&& (255 : Int32))) ⟨(own_and33 _), (own_b255 _), (own_b255 _)⟩
        · refine o_icmpN W0 (pc' := 210) (hb hy at_207) (XT.ii_ne_f he10) rfl ?_
          refine o_iloadN W0 (pc' := 211) (hb hy at_210) rfl rfl ?_
          refine o_iconst W0 (v := 2) (pc' := 212) (hb hy at_211) rfl rfl ?_
          refine o_iushr W0 (v := ((p3.toUInt32 >>> ((2 : Int32) &&& 31).toUInt32).toInt32)) (pc' := 213) (hb hy at_212) rfl rfl ?_
          refine o_iconst W0 (v := 3) (pc' := 214) (hb hy at_213) rfl rfl ?_
          refine o_iand W0 (v := (((p3.toUInt32 >>> ((2 : Int32) &&& 31).toUInt32).toInt32) &&& (3 : Int32))) (pc' := 215) (hb hy at_214) rfl rfl ?_
          refine o_iconst W0 (v := 3) (pc' := 216) (hb hy at_215) rfl rfl ?_
          refine o_irem W0 (v := ((((p3.toUInt32 >>> ((2 : Int32) &&& 31).toUInt32).toInt32) &&& (3 : Int32)) % (3 : Int32))) (pc' := 217) (hb hy at_216) (by decide) rfl rfl ?_
          refine o_istore W0 (L' := #[.val (.int p0), .val (.int p1), .val (.int p2), .val (.int p3), .val (.long p4), .second, .val (.long p5), .second, .val (.int ((p0 &&& (3 : Int32)) % (3 : Int32))), .val (.int (((p0.toUInt32 >>> ((2 : Int32) &&& 31).toUInt32).toInt32) &&& (255 : Int32))), .val (.int (((p0.toUInt32 >>> ((10 : Int32) &&& 31).toUInt32).toInt32) &&& (255 : Int32))), .val (.int ((p1 &&& (3 : Int32)) % (3 : Int32))), .val (.int (((p1.toUInt32 >>> ((2 : Int32) &&& 31).toUInt32).toInt32) &&& (255 : Int32))), .val (.int (((p1.toUInt32 >>> ((10 : Int32) &&& 31).toUInt32).toInt32) &&& (255 : Int32))), .val (.int (p2 &&& (3 : Int32))), .val (.int n3), .val (.int u0), .val (.int u1), .val (.int (p3 &&& (3 : Int32))), .val (.int ((((p3.toUInt32 >>> ((2 : Int32) &&& 31).toUInt32).toInt32) &&& (3 : Int32)) % (3 : Int32))), .unset, .unset, .unset, .unset]) (pc' := 219) (hb hy at_217) rfl rfl ?_
          refine o_iloadN W0 (pc' := 220) (hb hy at_219) rfl rfl ?_
          refine o_iconst W0 (v := 4) (pc' := 221) (hb hy at_220) rfl rfl ?_
          refine o_iushr W0 (v := ((p3.toUInt32 >>> ((4 : Int32) &&& 31).toUInt32).toInt32)) (pc' := 222) (hb hy at_221) rfl rfl ?_
          refine o_sipush W0 (v := 255) (pc' := 225) (hb hy at_222) (by decide) rfl ?_
          refine o_iand W0 (v := (((p3.toUInt32 >>> ((4 : Int32) &&& 31).toUInt32).toInt32) &&& (255 : Int32))) (pc' := 226) (hb hy at_225) rfl rfl ?_
          refine o_i2c W0 (v := (((p3.toUInt32 >>> ((4 : Int32) &&& 31).toUInt32).toInt32) &&& (255 : Int32))) (pc' := 227) (hb hy at_226) (own_i2c (own_b255 _)) rfl ?_
          refine o_istore W0 (L' := #[.val (.int p0), .val (.int p1), .val (.int p2), .val (.int p3), .val (.long p4), .second, .val (.long p5), .second, .val (.int ((p0 &&& (3 : Int32)) % (3 : Int32))), .val (.int (((p0.toUInt32 >>> ((2 : Int32) &&& 31).toUInt32).toInt32) &&& (255 : Int32))), .val (.int (((p0.toUInt32 >>> ((10 : Int32) &&& 31).toUInt32).toInt32) &&& (255 : Int32))), .val (.int ((p1 &&& (3 : Int32)) % (3 : Int32))), .val (.int (((p1.toUInt32 >>> ((2 : Int32) &&& 31).toUInt32).toInt32) &&& (255 : Int32))), .val (.int (((p1.toUInt32 >>> ((10 : Int32) &&& 31).toUInt32).toInt32) &&& (255 : Int32))), .val (.int (p2 &&& (3 : Int32))), .val (.int n3), .val (.int u0), .val (.int u1), .val (.int (p3 &&& (3 : Int32))), .val (.int ((((p3.toUInt32 >>> ((2 : Int32) &&& 31).toUInt32).toInt32) &&& (3 : Int32)) % (3 : Int32))), .val (.int (((p3.toUInt32 >>> ((4 : Int32) &&& 31).toUInt32).toInt32) &&& (255 : Int32))), .unset, .unset, .unset]) (pc' := 229) (hb hy at_227) rfl rfl ?_
          refine o_iloadN W0 (pc' := 230) (hb hy at_229) rfl rfl ?_
          refine o_bipush W0 (v := 12) (pc' := 232) (hb hy at_230) (by decide) rfl ?_
          refine o_iushr W0 (v := ((p3.toUInt32 >>> ((12 : Int32) &&& 31).toUInt32).toInt32)) (pc' := 233) (hb hy at_232) rfl rfl ?_
          refine o_sipush W0 (v := 255) (pc' := 236) (hb hy at_233) (by decide) rfl ?_
          refine o_iand W0 (v := (((p3.toUInt32 >>> ((12 : Int32) &&& 31).toUInt32).toInt32) &&& (255 : Int32))) (pc' := 237) (hb hy at_236) rfl rfl ?_
          refine o_i2c W0 (v := (((p3.toUInt32 >>> ((12 : Int32) &&& 31).toUInt32).toInt32) &&& (255 : Int32))) (pc' := 238) (hb hy at_237) (own_i2c (own_b255 _)) rfl ?_
          refine o_istore W0 (L' := #[.val (.int p0), .val (.int p1), .val (.int p2), .val (.int p3), .val (.long p4), .second, .val (.long p5), .second, .val (.int ((p0 &&& (3 : Int32)) % (3 : Int32))), .val (.int (((p0.toUInt32 >>> ((2 : Int32) &&& 31).toUInt32).toInt32) &&& (255 : Int32))), .val (.int (((p0.toUInt32 >>> ((10 : Int32) &&& 31).toUInt32).toInt32) &&& (255 : Int32))), .val (.int ((p1 &&& (3 : Int32)) % (3 : Int32))), .val (.int (((p1.toUInt32 >>> ((2 : Int32) &&& 31).toUInt32).toInt32) &&& (255 : Int32))), .val (.int (((p1.toUInt32 >>> ((10 : Int32) &&& 31).toUInt32).toInt32) &&& (255 : Int32))), .val (.int (p2 &&& (3 : Int32))), .val (.int n3), .val (.int u0), .val (.int u1), .val (.int (p3 &&& (3 : Int32))), .val (.int ((((p3.toUInt32 >>> ((2 : Int32) &&& 31).toUInt32).toInt32) &&& (3 : Int32)) % (3 : Int32))), .val (.int (((p3.toUInt32 >>> ((4 : Int32) &&& 31).toUInt32).toInt32) &&& (255 : Int32))), .val (.int (((p3.toUInt32 >>> ((12 : Int32) &&& 31).toUInt32).toInt32) &&& (255 : Int32))), .unset, .unset]) (pc' := 240) (hb hy at_238) rfl rfl ?_
          refine o_goto W0 (pc' := 260) (hb hy at_240) (by decide) rfl ?_
          exact M6 (((((p3.toUInt32 >>> ((2 : Int32) &&& 31).toUInt32).toInt32) &&& (3 : Int32)) % (3 : Int32)), (((p3.toUInt32 >>> ((4 : Int32) &&& 31).toUInt32).toInt32) &&& (255 : Int32)), (((p3.toUInt32 >>> ((12 : Int32) &&& 31).toUInt32).toInt32) &&& (255 : Int32))) ⟨(own_and33 _), (own_b255 _), (own_b255 _)⟩
      · refine o_icmpN W0 (pc' := 189) (hb hy at_186) (XT.ii_ne_f he9) rfl ?_
        refine o_iload W0 (pc' := 191) (hb hy at_189) rfl rfl ?_
        refine o_istore W0 (L' := #[.val (.int p0), .val (.int p1), .val (.int p2), .val (.int p3), .val (.long p4), .second, .val (.long p5), .second, .val (.int ((p0 &&& (3 : Int32)) % (3 : Int32))), .val (.int (((p0.toUInt32 >>> ((2 : Int32) &&& 31).toUInt32).toInt32) &&& (255 : Int32))), .val (.int (((p0.toUInt32 >>> ((10 : Int32) &&& 31).toUInt32).toInt32) &&& (255 : Int32))), .val (.int ((p1 &&& (3 : Int32)) % (3 : Int32))), .val (.int (((p1.toUInt32 >>> ((2 : Int32) &&& 31).toUInt32).toInt32) &&& (255 : Int32))), .val (.int (((p1.toUInt32 >>> ((10 : Int32) &&& 31).toUInt32).toInt32) &&& (255 : Int32))), .val (.int (p2 &&& (3 : Int32))), .val (.int n3), .val (.int u0), .val (.int u1), .val (.int (p3 &&& (3 : Int32))), .val (.int ((p0 &&& (3 : Int32)) % (3 : Int32))), .unset, .unset, .unset, .unset]) (pc' := 193) (hb hy at_191) rfl rfl ?_
        refine o_iload W0 (pc' := 195) (hb hy at_193) rfl rfl ?_
        refine o_istore W0 (L' := #[.val (.int p0), .val (.int p1), .val (.int p2), .val (.int p3), .val (.long p4), .second, .val (.long p5), .second, .val (.int ((p0 &&& (3 : Int32)) % (3 : Int32))), .val (.int (((p0.toUInt32 >>> ((2 : Int32) &&& 31).toUInt32).toInt32) &&& (255 : Int32))), .val (.int (((p0.toUInt32 >>> ((10 : Int32) &&& 31).toUInt32).toInt32) &&& (255 : Int32))), .val (.int ((p1 &&& (3 : Int32)) % (3 : Int32))), .val (.int (((p1.toUInt32 >>> ((2 : Int32) &&& 31).toUInt32).toInt32) &&& (255 : Int32))), .val (.int (((p1.toUInt32 >>> ((10 : Int32) &&& 31).toUInt32).toInt32) &&& (255 : Int32))), .val (.int (p2 &&& (3 : Int32))), .val (.int n3), .val (.int u0), .val (.int u1), .val (.int (p3 &&& (3 : Int32))), .val (.int ((p0 &&& (3 : Int32)) % (3 : Int32))), .val (.int (((p0.toUInt32 >>> ((2 : Int32) &&& 31).toUInt32).toInt32) &&& (255 : Int32))), .unset, .unset, .unset]) (pc' := 197) (hb hy at_195) rfl rfl ?_
        refine o_iload W0 (pc' := 199) (hb hy at_197) rfl rfl ?_
        refine o_istore W0 (L' := #[.val (.int p0), .val (.int p1), .val (.int p2), .val (.int p3), .val (.long p4), .second, .val (.long p5), .second, .val (.int ((p0 &&& (3 : Int32)) % (3 : Int32))), .val (.int (((p0.toUInt32 >>> ((2 : Int32) &&& 31).toUInt32).toInt32) &&& (255 : Int32))), .val (.int (((p0.toUInt32 >>> ((10 : Int32) &&& 31).toUInt32).toInt32) &&& (255 : Int32))), .val (.int ((p1 &&& (3 : Int32)) % (3 : Int32))), .val (.int (((p1.toUInt32 >>> ((2 : Int32) &&& 31).toUInt32).toInt32) &&& (255 : Int32))), .val (.int (((p1.toUInt32 >>> ((10 : Int32) &&& 31).toUInt32).toInt32) &&& (255 : Int32))), .val (.int (p2 &&& (3 : Int32))), .val (.int n3), .val (.int u0), .val (.int u1), .val (.int (p3 &&& (3 : Int32))), .val (.int ((p0 &&& (3 : Int32)) % (3 : Int32))), .val (.int (((p0.toUInt32 >>> ((2 : Int32) &&& 31).toUInt32).toInt32) &&& (255 : Int32))), .val (.int (((p0.toUInt32 >>> ((10 : Int32) &&& 31).toUInt32).toInt32) &&& (255 : Int32))), .unset, .unset]) (pc' := 201) (hb hy at_199) rfl rfl ?_
        refine o_goto W0 (pc' := 260) (hb hy at_201) (by decide) rfl ?_
        exact M6 (((p0 &&& (3 : Int32)) % (3 : Int32)), (((p0.toUInt32 >>> ((2 : Int32) &&& 31).toUInt32).toInt32) &&& (255 : Int32)), (((p0.toUInt32 >>> ((10 : Int32) &&& 31).toUInt32).toInt32) &&& (255 : Int32))) ⟨(own_and33 _), (own_b255 _), (own_b255 _)⟩
    · refine o_ifN W0 (pc' := 168) (hb hy at_165) (XT.i0_ne_f he8) rfl ?_
      refine o_iload W0 (pc' := 170) (hb hy at_168) rfl rfl ?_
      refine o_istore W0 (L' := #[.val (.int p0), .val (.int p1), .val (.int p2), .val (.int p3), .val (.long p4), .second, .val (.long p5), .second, .val (.int ((p0 &&& (3 : Int32)) % (3 : Int32))), .val (.int (((p0.toUInt32 >>> ((2 : Int32) &&& 31).toUInt32).toInt32) &&& (255 : Int32))), .val (.int (((p0.toUInt32 >>> ((10 : Int32) &&& 31).toUInt32).toInt32) &&& (255 : Int32))), .val (.int ((p1 &&& (3 : Int32)) % (3 : Int32))), .val (.int (((p1.toUInt32 >>> ((2 : Int32) &&& 31).toUInt32).toInt32) &&& (255 : Int32))), .val (.int (((p1.toUInt32 >>> ((10 : Int32) &&& 31).toUInt32).toInt32) &&& (255 : Int32))), .val (.int (p2 &&& (3 : Int32))), .val (.int n3), .val (.int u0), .val (.int u1), .val (.int (p3 &&& (3 : Int32))), .val (.int ((p1 &&& (3 : Int32)) % (3 : Int32))), .unset, .unset, .unset, .unset]) (pc' := 172) (hb hy at_170) rfl rfl ?_
      refine o_iload W0 (pc' := 174) (hb hy at_172) rfl rfl ?_
      refine o_istore W0 (L' := #[.val (.int p0), .val (.int p1), .val (.int p2), .val (.int p3), .val (.long p4), .second, .val (.long p5), .second, .val (.int ((p0 &&& (3 : Int32)) % (3 : Int32))), .val (.int (((p0.toUInt32 >>> ((2 : Int32) &&& 31).toUInt32).toInt32) &&& (255 : Int32))), .val (.int (((p0.toUInt32 >>> ((10 : Int32) &&& 31).toUInt32).toInt32) &&& (255 : Int32))), .val (.int ((p1 &&& (3 : Int32)) % (3 : Int32))), .val (.int (((p1.toUInt32 >>> ((2 : Int32) &&& 31).toUInt32).toInt32) &&& (255 : Int32))), .val (.int (((p1.toUInt32 >>> ((10 : Int32) &&& 31).toUInt32).toInt32) &&& (255 : Int32))), .val (.int (p2 &&& (3 : Int32))), .val (.int n3), .val (.int u0), .val (.int u1), .val (.int (p3 &&& (3 : Int32))), .val (.int ((p1 &&& (3 : Int32)) % (3 : Int32))), .val (.int (((p1.toUInt32 >>> ((2 : Int32) &&& 31).toUInt32).toInt32) &&& (255 : Int32))), .unset, .unset, .unset]) (pc' := 176) (hb hy at_174) rfl rfl ?_
      refine o_iload W0 (pc' := 178) (hb hy at_176) rfl rfl ?_
      refine o_istore W0 (L' := #[.val (.int p0), .val (.int p1), .val (.int p2), .val (.int p3), .val (.long p4), .second, .val (.long p5), .second, .val (.int ((p0 &&& (3 : Int32)) % (3 : Int32))), .val (.int (((p0.toUInt32 >>> ((2 : Int32) &&& 31).toUInt32).toInt32) &&& (255 : Int32))), .val (.int (((p0.toUInt32 >>> ((10 : Int32) &&& 31).toUInt32).toInt32) &&& (255 : Int32))), .val (.int ((p1 &&& (3 : Int32)) % (3 : Int32))), .val (.int (((p1.toUInt32 >>> ((2 : Int32) &&& 31).toUInt32).toInt32) &&& (255 : Int32))), .val (.int (((p1.toUInt32 >>> ((10 : Int32) &&& 31).toUInt32).toInt32) &&& (255 : Int32))), .val (.int (p2 &&& (3 : Int32))), .val (.int n3), .val (.int u0), .val (.int u1), .val (.int (p3 &&& (3 : Int32))), .val (.int ((p1 &&& (3 : Int32)) % (3 : Int32))), .val (.int (((p1.toUInt32 >>> ((2 : Int32) &&& 31).toUInt32).toInt32) &&& (255 : Int32))), .val (.int (((p1.toUInt32 >>> ((10 : Int32) &&& 31).toUInt32).toInt32) &&& (255 : Int32))), .unset, .unset]) (pc' := 180) (hb hy at_178) rfl rfl ?_
      refine o_goto W0 (pc' := 260) (hb hy at_180) (by decide) rfl ?_
      exact M6 (((p1 &&& (3 : Int32)) % (3 : Int32)), (((p1.toUInt32 >>> ((2 : Int32) &&& 31).toUInt32).toInt32) &&& (255 : Int32)), (((p1.toUInt32 >>> ((10 : Int32) &&& 31).toUInt32).toInt32) &&& (255 : Int32))) ⟨(own_and33 _), (own_b255 _), (own_b255 _)⟩
  obtain ⟨n4, j0, j1⟩ := v
  have hm7 : own_3 n4 ∧ own_b j0 ∧ own_b j1 := hm7
  show Gl _ _ _ _ _ _ _ #[.val (.int p0), .val (.int p1), .val (.int p2), .val (.int p3), .val (.long p4), .second, .val (.long p5), .second, .val (.int ((p0 &&& (3 : Int32)) % (3 : Int32))), .val (.int (((p0.toUInt32 >>> ((2 : Int32) &&& 31).toUInt32).toInt32) &&& (255 : Int32))), .val (.int (((p0.toUInt32 >>> ((10 : Int32) &&& 31).toUInt32).toInt32) &&& (255 : Int32))), .val (.int ((p1 &&& (3 : Int32)) % (3 : Int32))), .val (.int (((p1.toUInt32 >>> ((2 : Int32) &&& 31).toUInt32).toInt32) &&& (255 : Int32))), .val (.int (((p1.toUInt32 >>> ((10 : Int32) &&& 31).toUInt32).toInt32) &&& (255 : Int32))), .val (.int (p2 &&& (3 : Int32))), .val (.int n3), .val (.int u0), .val (.int u1), .val (.int (p3 &&& (3 : Int32))), .val (.int n4), .val (.int j0), .val (.int j1), .unset, .unset] []
  refine o_iload W0 (pc' := 262) (hb hy at_260) rfl rfl ?_
  refine o_iload W0 (pc' := 264) (hb hy at_262) rfl rfl ?_
  refine o_iload W0 (pc' := 266) (hb hy at_264) rfl rfl ?_
  refine o_iload W0 (pc' := 268) (hb hy at_266) rfl rfl ?_
  refine o_iload W0 (pc' := 270) (hb hy at_268) rfl rfl ?_
  refine o_iload W0 (pc' := 272) (hb hy at_270) rfl rfl ?_
  refine o_static W0 (y := (⟨"com/example/plebiscite/plebiscite/core/CursorGivenByPinLaw", "same", "(ICCICC)Z"⟩ : MethodName)) (w0 hw) (w1 hw) (w2 hw) (w3 hw) (by decide) (argsL := [(.int ((p0 &&& (3 : Int32)) % (3 : Int32))), (.int (((p0.toUInt32 >>> ((2 : Int32) &&& 31).toUInt32).toInt32) &&& (255 : Int32))), (.int (((p0.toUInt32 >>> ((10 : Int32) &&& 31).toUInt32).toInt32) &&& (255 : Int32))), (.int n3), (.int u0), (.int u1)]) (CtrN.back (Wd := 0) W0 (rm8 l Z a0 hw ((p0 &&& (3 : Int32)) % (3 : Int32)) (((p0.toUInt32 >>> ((2 : Int32) &&& 31).toUInt32).toInt32) &&& (255 : Int32)) (((p0.toUInt32 >>> ((10 : Int32) &&& 31).toUInt32).toInt32) &&& (255 : Int32)) n3 u0 u1 h0 W0.old (own_and33 _) hm2.1) (w3 hw) (w2 hw) (by decide) (by decide)) (by rw [hml]; rfl) (lenOf pd6 rfl) (S := []) rfl (by exact Nat.le_of_eq rfl) (pc' := 275) (hb hy at_272) rfl (cells' := 0) (slots' := 0) rfl rfl (by decide) (by decide) (wy := []) (fun _ _ _ q => ⟨q.1, q.2.1⟩) all0 (fun _ K => IW.keep K sf0 W0.inv) ?_
  intro v11 T11 h11 lo11 W11 K11 q11
  obtain rfl := q11.2.2
  show Gl _ _ _ _ _ _ _ _ [(.int (own_eq (own_cs2 ((p0 &&& (3 : Int32)) % (3 : Int32)) (((p0.toUInt32 >>> ((2 : Int32) &&& 31).toUInt32).toInt32) &&& (255 : Int32)) (((p0.toUInt32 >>> ((10 : Int32) &&& 31).toUInt32).toInt32) &&& (255 : Int32))) (own_cs2 n3 u0 u1)))]
  by_cases he12 : (own_eq (own_cs2 ((p0 &&& (3 : Int32)) % (3 : Int32)) (((p0.toUInt32 >>> ((2 : Int32) &&& 31).toUInt32).toInt32) &&& (255 : Int32)) (((p0.toUInt32 >>> ((10 : Int32) &&& 31).toUInt32).toInt32) &&& (255 : Int32))) (own_cs2 n3 u0 u1)) = (0 : Int32)
  · refine o_ifY W11 (pc' := 300) (hb hy at_275) (XT.i0_eq_t he12) (by decide) rfl ?_
    refine o_iconst W11 (v := 0) (pc' := 301) (hb hy at_300) rfl rfl ?_
    refine o_istore W11 (L' := #[.val (.int p0), .val (.int p1), .val (.int p2), .val (.int p3), .val (.long p4), .second, .val (.long p5), .second, .val (.int ((p0 &&& (3 : Int32)) % (3 : Int32))), .val (.int (((p0.toUInt32 >>> ((2 : Int32) &&& 31).toUInt32).toInt32) &&& (255 : Int32))), .val (.int (((p0.toUInt32 >>> ((10 : Int32) &&& 31).toUInt32).toInt32) &&& (255 : Int32))), .val (.int ((p1 &&& (3 : Int32)) % (3 : Int32))), .val (.int (((p1.toUInt32 >>> ((2 : Int32) &&& 31).toUInt32).toInt32) &&& (255 : Int32))), .val (.int (((p1.toUInt32 >>> ((10 : Int32) &&& 31).toUInt32).toInt32) &&& (255 : Int32))), .val (.int (p2 &&& (3 : Int32))), .val (.int n3), .val (.int u0), .val (.int u1), .val (.int (p3 &&& (3 : Int32))), .val (.int n4), .val (.int j0), .val (.int j1), .val (.int 0), .unset]) (pc' := 303) (hb hy at_301) rfl rfl ?_
    refine o_new W11 (w4 hw) (w5 hw) (w6 hw) (fun _ E => IW.ext E W11.inv) (pc' := 306) (hb hy at_303) rfl (cells' := 1) (slots' := 3) rfl rfl (by decide) (by decide) ?_
    intro b13 T13 h13 W13 E13 ge13 gz13 gb13 A13 D13
    have Fb13_replica : Fld Z h13 b13 "com/example/plebiscite/plebiscite/core/Cursor" "replica" "Ljava/lang/String;" .null := D13 (Or.inr (w57 hw)) (ty := (.object "java/lang/String")) (by decide)
    have Fb13_epoch : Fld Z h13 b13 "com/example/plebiscite/plebiscite/core/Cursor" "epoch" "Ljava/lang/String;" .null := D13 (Or.inr (w59 hw)) (ty := (.object "java/lang/String")) (by decide)
    have Fb13_point : Fld Z h13 b13 "com/example/plebiscite/plebiscite/core/Cursor" "point" "Lcom/example/plebiscite/plebiscite/core/Multilog$Point;" .null := D13 (Or.inr (w61 hw)) (ty := (.object "com/example/plebiscite/plebiscite/core/Multilog$Point")) (by decide)
    refine o_dup W13 (pc' := 307) (hb hy at_306) rfl rfl ?_
    refine o_iload W13 (pc' := 309) (hb hy at_307) rfl rfl ?_
    refine o_iload W13 (pc' := 311) (hb hy at_309) rfl rfl ?_
    refine o_iload W13 (pc' := 313) (hb hy at_311) rfl rfl ?_
    refine o_staticW W13 (y := (⟨"com/example/plebiscite/plebiscite/core/CursorGivenByPinLaw", "str", "(ICC)Ljava/lang/String;"⟩ : MethodName)) (w7 hw) (w8 hw) (w2 hw) (w9 hw) (by decide) (argsL := [(.int ((p0 &&& (3 : Int32)) % (3 : Int32))), (.int (((p0.toUInt32 >>> ((2 : Int32) &&& 31).toUInt32).toInt32) &&& (255 : Int32))), (.int (((p0.toUInt32 >>> ((10 : Int32) &&& 31).toUInt32).toInt32) &&& (255 : Int32)))]) (CtrW.back (Wd := 2) W13 (rm7 l Z a0 hw gCS ((p0 &&& (3 : Int32)) % (3 : Int32)) (((p0.toUInt32 >>> ((2 : Int32) &&& 31).toUInt32).toInt32) &&& (255 : Int32)) (((p0.toUInt32 >>> ((10 : Int32) &&& 31).toUInt32).toInt32) &&& (255 : Int32)) h13 W13.old SgCS NgCS (own_b255 _) (own_b255 _)) (w9 hw) (w2 hw) (by decide) (by decide) (own_EL hw)) (by rw [hml]; rfl) (lenOf pd7 rfl) (S := [(.ref b13), (.ref b13)]) rfl (by exact Nat.le_of_eq rfl) (pc' := 316) (hb hy at_313) rfl (cells' := 7) (slots' := 15) rfl rfl (by decide) (by decide) (wy := []) (fun _ _ _ q => ⟨q.1, q.2.1⟩) all0  ?_
    intro v14 T14 h14 V14 lo14 W14 K14 C14 q14
    obtain ⟨r1_14, r2_14, r3_14, P14_0, P14_1, P14_2, P14_3, P14_4, rfl⟩ := q14.2.2
    show Gl _ _ _ _ _ _ _ _ [(.ref r1_14), (.ref b13), (.ref b13)]
    refine o_iload W14 (pc' := 318) (hb hy at_316) rfl rfl ?_
    refine o_iload W14 (pc' := 320) (hb hy at_318) rfl rfl ?_
    refine o_iload W14 (pc' := 322) (hb hy at_320) rfl rfl ?_
    refine o_staticW W14 (y := (⟨"com/example/plebiscite/plebiscite/core/CursorGivenByPinLaw", "str", "(ICC)Ljava/lang/String;"⟩ : MethodName)) (w7 hw) (w8 hw) (w2 hw) (w9 hw) (by decide) (argsL := [(.int ((p1 &&& (3 : Int32)) % (3 : Int32))), (.int (((p1.toUInt32 >>> ((2 : Int32) &&& 31).toUInt32).toInt32) &&& (255 : Int32))), (.int (((p1.toUInt32 >>> ((10 : Int32) &&& 31).toUInt32).toInt32) &&& (255 : Int32)))]) (CtrW.back (Wd := 3) W14 (rm7 l Z a0 hw gCS ((p1 &&& (3 : Int32)) % (3 : Int32)) (((p1.toUInt32 >>> ((2 : Int32) &&& 31).toUInt32).toInt32) &&& (255 : Int32)) (((p1.toUInt32 >>> ((10 : Int32) &&& 31).toUInt32).toInt32) &&& (255 : Int32)) h14 W14.old SgCS NgCS (own_b255 _) (own_b255 _)) (w9 hw) (w2 hw) (by decide) (by decide) (own_EL hw)) (by rw [hml]; rfl) (lenOf pd7 rfl) (S := [(.ref r1_14), (.ref b13), (.ref b13)]) rfl (by exact Nat.le_of_eq rfl) (pc' := 325) (hb hy at_322) rfl (cells' := 13) (slots' := 27) rfl rfl (by decide) (by decide) (wy := []) (fun _ _ _ q => ⟨q.1, q.2.1⟩) all0  ?_
    intro v15 T15 h15 V15 lo15 W15 K15 C15 q15
    obtain ⟨r1_15, r2_15, r3_15, P15_0, P15_1, P15_2, P15_3, P15_4, rfl⟩ := q15.2.2
    show Gl _ _ _ _ _ _ _ _ [(.ref r1_15), (.ref r1_14), (.ref b13), (.ref b13)]
    refine o_new W15 (w32 hw) (w33 hw) (w34 hw) (fun _ E => IW.ext E W15.inv) (pc' := 328) (hb hy at_325) rfl (cells' := 14) (slots' := 31) rfl rfl (by decide) (by decide) ?_
    intro b16 T16 h16 W16 E16 ge16 gz16 gb16 A16 D16
    have Fb16_actions : Fld Z h16 b16 "com/example/plebiscite/plebiscite/core/Multilog$Point" "actions" "J" (.long (0 : Int64)) := D16 (Or.inr (w45 hw)) (ty := .long) (by decide)
    have Fb16_constraints : Fld Z h16 b16 "com/example/plebiscite/plebiscite/core/Multilog$Point" "constraints" "J" (.long (0 : Int64)) := D16 (Or.inr (w47 hw)) (ty := .long) (by decide)
    have Fb16_guarantees : Fld Z h16 b16 "com/example/plebiscite/plebiscite/core/Multilog$Point" "guarantees" "J" (.long (0 : Int64)) := D16 (Or.inr (w49 hw)) (ty := .long) (by decide)
    have Fb16_kills : Fld Z h16 b16 "com/example/plebiscite/plebiscite/core/Multilog$Point" "kills" "J" (.long (0 : Int64)) := D16 (Or.inr (w51 hw)) (ty := .long) (by decide)
    refine o_dup W16 (pc' := 329) (hb hy at_328) rfl rfl ?_
    refine o_lload W16 (pc' := 331) (hb hy at_329) rfl rfl ?_
    refine o_lload W16 (pc' := 333) (hb hy at_331) rfl rfl ?_
    refine o_lload W16 (pc' := 335) (hb hy at_333) rfl rfl ?_
    refine o_lload W16 (pc' := 337) (hb hy at_335) rfl rfl ?_
    refine o_lxor W16 (v := (p4 ^^^ p5)) (pc' := 338) (hb hy at_337) rfl rfl ?_
    refine o_lload W16 (pc' := 340) (hb hy at_338) rfl rfl ?_
    refine o_lload W16 (pc' := 342) (hb hy at_340) rfl rfl ?_
    refine o_lsub W16 (v := (p5 - p4)) (pc' := 343) (hb hy at_342) rfl rfl ?_
    refine o_special W16 (y := (⟨"com/example/plebiscite/plebiscite/core/Multilog$Point", "<init>", "(JJJJ)V"⟩ : MethodName)) rfl (w35 hw) (w36 hw) (w37 hw) (by decide) (a := b16) (argsL := [(.long p4), (.long p5), (.long (p4 ^^^ p5)), (.long (p5 - p4))]) (CtrN.back (Wd := 5) W16 (rm10 l Z a0 hw b16 p4 p5 (p4 ^^^ p5) (p5 - p4) h16 W16.old A16 Fb16_actions gz16 Fb16_constraints Fb16_guarantees Fb16_kills) (w37 hw) (w34 hw) (by decide) (by decide)) (by rw [hml]; rfl) (lenOf pd9 rfl) (S := [(.ref b16), (.ref r1_15), (.ref r1_14), (.ref b13), (.ref b13)]) rfl (by exact Nat.le_of_eq rfl) (pc' := 346) (hb hy at_343) rfl (cells' := 14) (slots' := 31) rfl rfl (by decide) (by decide) (wy := [b16]) (fun _ _ _ q => ⟨q.1, q.2.1⟩) (allS ⟨gz16, (Or.inr gb16)⟩ all0) (fun _ K => IW.keep K (sfS (Safe.exa W16.al A16 (by decide) (by decide)) sf0) W16.inv) ?_
    intro v17 T17 h17 lo17 W17 K17 q17
    obtain ⟨P17_0, P17_1, P17_2, P17_3, rfl⟩ := q17.2.2
    show Gl _ _ _ _ _ _ _ _ [(.ref b16), (.ref r1_15), (.ref r1_14), (.ref b13), (.ref b13)]
    have c18 := ((A13.keep K14).keep K15)
    have c19 := ((((Fb13_replica.keep K14 nin0).keep K15 nin0).ext E16).keep K17 (ninS (own_ne c18.lt ge16) nin0))
    have c20 := ((((Fb13_epoch.keep K14 nin0).keep K15 nin0).ext E16).keep K17 (ninS (own_ne c18.lt ge16) nin0))
    have c21 := ((((Fb13_point.keep K14 nin0).keep K15 nin0).ext E16).keep K17 (ninS (own_ne c18.lt ge16) nin0))
    have c22 := ((c18.ext E16).keep K17)
    refine o_special W17 (y := (⟨"com/example/plebiscite/plebiscite/core/Cursor", "<init>", "(Ljava/lang/String;Ljava/lang/String;Lcom/example/plebiscite/plebiscite/core/Multilog$Point;)V"⟩ : MethodName)) rfl (w52 hw) (w53 hw) (w54 hw) (by decide) (a := b13) (argsL := [(.ref r1_14), (.ref r1_15), (.ref b16)]) (CtrN.back (Wd := 1) W17 (rm11 l Z a0 hw b13 r1_14 r1_15 b16 h17 W17.old c22 c19 gz13 c20 c21) (w54 hw) (w6 hw) (by decide) (by decide)) (by rw [hml]; rfl) (lenOf pd10 rfl) (S := [(.ref b13)]) rfl (by exact Nat.le_of_eq rfl) (pc' := 349) (hb hy at_346) rfl (cells' := 14) (slots' := 31) rfl rfl (by decide) (by decide) (wy := [b13]) (fun _ _ _ q => ⟨q.1, q.2.1⟩) (allS ⟨gz13, (Or.inr gb13)⟩ all0) (fun _ K => IW.keep K (sfS (Safe.exa W17.al c22 (by decide) (by decide)) sf0) W17.inv) ?_
    intro v23 T23 h23 lo23 W23 K23 q23
    obtain ⟨P23_0, P23_1, P23_2, rfl⟩ := q23.2.2
    show Gl _ _ _ _ _ _ _ _ [(.ref b13)]
    refine o_astore W23 (L' := #[.val (.int p0), .val (.int p1), .val (.int p2), .val (.int p3), .val (.long p4), .second, .val (.long p5), .second, .val (.int ((p0 &&& (3 : Int32)) % (3 : Int32))), .val (.int (((p0.toUInt32 >>> ((2 : Int32) &&& 31).toUInt32).toInt32) &&& (255 : Int32))), .val (.int (((p0.toUInt32 >>> ((10 : Int32) &&& 31).toUInt32).toInt32) &&& (255 : Int32))), .val (.int ((p1 &&& (3 : Int32)) % (3 : Int32))), .val (.int (((p1.toUInt32 >>> ((2 : Int32) &&& 31).toUInt32).toInt32) &&& (255 : Int32))), .val (.int (((p1.toUInt32 >>> ((10 : Int32) &&& 31).toUInt32).toInt32) &&& (255 : Int32))), .val (.int (p2 &&& (3 : Int32))), .val (.int n3), .val (.int u0), .val (.int u1), .val (.int (p3 &&& (3 : Int32))), .val (.int n4), .val (.int j0), .val (.int j1), .val (.int 0), .val (.ref b13)]) (pc' := 351) (hb hy at_349) rfl rfl rfl ?_
    refine o_aload W23 (pc' := 353) (hb hy at_351) rfl rfl rfl ?_
    refine o_iload W23 (pc' := 355) (hb hy at_353) rfl rfl ?_
    refine o_iload W23 (pc' := 357) (hb hy at_355) rfl rfl ?_
    refine o_iload W23 (pc' := 359) (hb hy at_357) rfl rfl ?_
    refine o_staticW W23 (y := (⟨"com/example/plebiscite/plebiscite/core/CursorGivenByPinLaw", "str", "(ICC)Ljava/lang/String;"⟩ : MethodName)) (w7 hw) (w8 hw) (w2 hw) (w9 hw) (by decide) (argsL := [(.int n3), (.int u0), (.int u1)]) (CtrW.back (Wd := 1) W23 (rm7 l Z a0 hw gCS n3 u0 u1 h23 W23.old SgCS NgCS hm2.2.1 hm2.2.2) (w9 hw) (w2 hw) (by decide) (by decide) (own_EL hw)) (by rw [hml]; rfl) (lenOf pd7 rfl) (S := [(.ref b13)]) rfl (by exact Nat.le_of_eq rfl) (pc' := 362) (hb hy at_359) rfl (cells' := 20) (slots' := 43) rfl rfl (by decide) (by decide) (wy := []) (fun _ _ _ q => ⟨q.1, q.2.1⟩) all0  ?_
    intro v24 T24 h24 V24 lo24 W24 K24 C24 q24
    obtain ⟨r1_24, r2_24, r3_24, P24_0, P24_1, P24_2, P24_3, P24_4, rfl⟩ := q24.2.2
    show Gl _ _ _ _ _ _ _ _ [(.ref r1_24), (.ref b13)]
    refine o_iload W24 (pc' := 364) (hb hy at_362) rfl rfl ?_
    refine o_iload W24 (pc' := 366) (hb hy at_364) rfl rfl ?_
    refine o_iload W24 (pc' := 368) (hb hy at_366) rfl rfl ?_
    refine o_staticW W24 (y := (⟨"com/example/plebiscite/plebiscite/core/CursorGivenByPinLaw", "str", "(ICC)Ljava/lang/String;"⟩ : MethodName)) (w7 hw) (w8 hw) (w2 hw) (w9 hw) (by decide) (argsL := [(.int n4), (.int j0), (.int j1)]) (CtrW.back (Wd := 2) W24 (rm7 l Z a0 hw gCS n4 j0 j1 h24 W24.old SgCS NgCS hm7.2.1 hm7.2.2) (w9 hw) (w2 hw) (by decide) (by decide) (own_EL hw)) (by rw [hml]; rfl) (lenOf pd7 rfl) (S := [(.ref r1_24), (.ref b13)]) rfl (by exact Nat.le_of_eq rfl) (pc' := 371) (hb hy at_368) rfl (cells' := 26) (slots' := 55) rfl rfl (by decide) (by decide) (wy := []) (fun _ _ _ q => ⟨q.1, q.2.1⟩) all0  ?_
    intro v25 T25 h25 V25 lo25 W25 K25 C25 q25
    obtain ⟨r1_25, r2_25, r3_25, P25_0, P25_1, P25_2, P25_3, P25_4, rfl⟩ := q25.2.2
    show Gl _ _ _ _ _ _ _ _ [(.ref r1_25), (.ref r1_24), (.ref b13)]
    have c26 := ((P23_0.keep K24 nin0).keep K25 nin0)
    have c27 := (P14_1.keep K15)
    have c28 := ((((((P14_3.keep K15 nin0).ext E16).keep K17 (ninS (own_ne c27.lt ge16) nin0)).keep K23 (ninS (own_ne' A13.lt P14_0) nin0)).keep K24 nin0).keep K25 nin0)
    have c29 := ((((((P14_2.keep K15 nin0).ext E16).keep K17 (ninS (own_ne c27.lt ge16) nin0)).keep K23 (ninS (own_ne' A13.lt P14_0) nin0)).keep K24 nin0).keep K25 nin0)
    have c30 := (P14_4.keep K15 nin0)
    have c31 := (((c22.keep K23).keep K24).keep K25)
    have c32 := ((c30.ext E16).keep K17 (ninS (own_ne c30.lt ge16) nin0))
    have c33 := ((((((P14_4.keep K15 nin0).ext E16).keep K17 (ninS (own_ne c30.lt ge16) nin0)).keep K23 (ninS (Ne.symm (Exa.neArv c22 c32 (w5 hw))) nin0)).keep K24 nin0).keep K25 nin0)
    have c34 := (P24_3.keep K25 nin0)
    have c35 := (P24_2.keep K25 nin0)
    have c36 := (P24_4.keep K25 nin0)
    have c37 := (((((c27.ext E16).keep K17).keep K23).keep K24).keep K25)
    have c38 := (P24_1.keep K25)
    refine o_virtual W25 (y := (⟨"com/example/plebiscite/plebiscite/core/Cursor", "givenBy", "(Ljava/lang/String;Ljava/lang/String;)Z"⟩ : MethodName)) (z := (⟨"com/example/plebiscite/plebiscite/core/Cursor", "givenBy", "(Ljava/lang/String;Ljava/lang/String;)Z"⟩ : MethodName)) (w62 hw) (w63 hw) (o_nf W25 rfl (w65 hw)) (w65 hw) (w64 hw) (by decide) c31 (argsL := [(.ref r1_24), (.ref r1_25)]) (CtrN.back (Wd := 0) W25 (rm12 l Z a0 hw gCS b13 r1_24 r1_25 r1_14 r2_14 r3_14 (own_cs2 ((p0 &&& (3 : Int32)) % (3 : Int32)) (((p0.toUInt32 >>> ((2 : Int32) &&& 31).toUInt32).toInt32) &&& (255 : Int32)) (((p0.toUInt32 >>> ((10 : Int32) &&& 31).toUInt32).toInt32) &&& (255 : Int32))) r2_24 r3_24 (own_cs2 n3 u0 u1) h25 W25.old c26 c37 SgCS NgCS c28 c29 c33 (own_cs2ok (own_b255 _) (own_b255 _)) c38 c34 c35 c36 (own_cs2ok hm2.2.1 hm2.2.2) he12) (w66 hw) (w6 hw) (by decide) (by decide)) (by rw [hml]; rfl) (lenOf pd12 rfl) (S := []) rfl (by exact Nat.le_of_eq rfl) (pc' := 374) (hb hy at_371) rfl (cells' := 26) (slots' := 55) rfl rfl (by decide) (by decide) (wy := []) (fun _ _ _ q => ⟨q.1, q.2.1⟩) all0 (fun _ K => IW.keep K sf0 W25.inv) ?_
    intro v39 T39 h39 lo39 W39 K39 q39
    obtain rfl := q39.2.2
    show Gl _ _ _ _ _ _ _ _ [(.int 0)]
    refine o_iload W39 (pc' := 376) (hb hy at_374) rfl rfl ?_
    refine o_icmpN W39 (pc' := 379) (hb hy at_376) (XT.ii_ne_f (by decide)) rfl ?_
    refine o_iconst W39 (v := 1) (pc' := 380) (hb hy at_379) rfl rfl ?_
    refine o_goto W39 (pc' := 384) (hb hy at_380) (by decide) rfl ?_
    exact o_retNW W39 (own_EL hw) hlk (t := .boolean) hret (by simp) (z' := (1 : Int32)) (by decide) (hb hy at_384) (by decide) (by decide) rfl
  · refine o_ifN W11 (pc' := 278) (hb hy at_275) (XT.i0_eq_f he12) rfl ?_
    refine o_iload W11 (pc' := 280) (hb hy at_278) rfl rfl ?_
    refine o_iload W11 (pc' := 282) (hb hy at_280) rfl rfl ?_
    refine o_iload W11 (pc' := 284) (hb hy at_282) rfl rfl ?_
    refine o_iload W11 (pc' := 286) (hb hy at_284) rfl rfl ?_
    refine o_iload W11 (pc' := 288) (hb hy at_286) rfl rfl ?_
    refine o_iload W11 (pc' := 290) (hb hy at_288) rfl rfl ?_
    refine o_static W11 (y := (⟨"com/example/plebiscite/plebiscite/core/CursorGivenByPinLaw", "same", "(ICCICC)Z"⟩ : MethodName)) (w0 hw) (w1 hw) (w2 hw) (w3 hw) (by decide) (argsL := [(.int ((p1 &&& (3 : Int32)) % (3 : Int32))), (.int (((p1.toUInt32 >>> ((2 : Int32) &&& 31).toUInt32).toInt32) &&& (255 : Int32))), (.int (((p1.toUInt32 >>> ((10 : Int32) &&& 31).toUInt32).toInt32) &&& (255 : Int32))), (.int n4), (.int j0), (.int j1)]) (CtrN.back (Wd := 0) W11 (rm8 l Z a0 hw ((p1 &&& (3 : Int32)) % (3 : Int32)) (((p1.toUInt32 >>> ((2 : Int32) &&& 31).toUInt32).toInt32) &&& (255 : Int32)) (((p1.toUInt32 >>> ((10 : Int32) &&& 31).toUInt32).toInt32) &&& (255 : Int32)) n4 j0 j1 h11 W11.old (own_and33 _) hm7.1) (w3 hw) (w2 hw) (by decide) (by decide)) (by rw [hml]; rfl) (lenOf pd6 rfl) (S := []) rfl (by exact Nat.le_of_eq rfl) (pc' := 293) (hb hy at_290) rfl (cells' := 0) (slots' := 0) rfl rfl (by decide) (by decide) (wy := []) (fun _ _ _ q => ⟨q.1, q.2.1⟩) all0 (fun _ K => IW.keep K sf0 W11.inv) ?_
    intro v40 T40 h40 lo40 W40 K40 q40
    obtain rfl := q40.2.2
    show Gl _ _ _ _ _ _ _ _ [(.int (own_eq (own_cs2 ((p1 &&& (3 : Int32)) % (3 : Int32)) (((p1.toUInt32 >>> ((2 : Int32) &&& 31).toUInt32).toInt32) &&& (255 : Int32)) (((p1.toUInt32 >>> ((10 : Int32) &&& 31).toUInt32).toInt32) &&& (255 : Int32))) (own_cs2 n4 j0 j1)))]
    by_cases he41 : (own_eq (own_cs2 ((p1 &&& (3 : Int32)) % (3 : Int32)) (((p1.toUInt32 >>> ((2 : Int32) &&& 31).toUInt32).toInt32) &&& (255 : Int32)) (((p1.toUInt32 >>> ((10 : Int32) &&& 31).toUInt32).toInt32) &&& (255 : Int32))) (own_cs2 n4 j0 j1)) = (0 : Int32)
    · refine o_ifY W40 (pc' := 300) (hb hy at_293) (XT.i0_eq_t he41) (by decide) rfl ?_
      refine o_iconst W40 (v := 0) (pc' := 301) (hb hy at_300) rfl rfl ?_
      refine o_istore W40 (L' := #[.val (.int p0), .val (.int p1), .val (.int p2), .val (.int p3), .val (.long p4), .second, .val (.long p5), .second, .val (.int ((p0 &&& (3 : Int32)) % (3 : Int32))), .val (.int (((p0.toUInt32 >>> ((2 : Int32) &&& 31).toUInt32).toInt32) &&& (255 : Int32))), .val (.int (((p0.toUInt32 >>> ((10 : Int32) &&& 31).toUInt32).toInt32) &&& (255 : Int32))), .val (.int ((p1 &&& (3 : Int32)) % (3 : Int32))), .val (.int (((p1.toUInt32 >>> ((2 : Int32) &&& 31).toUInt32).toInt32) &&& (255 : Int32))), .val (.int (((p1.toUInt32 >>> ((10 : Int32) &&& 31).toUInt32).toInt32) &&& (255 : Int32))), .val (.int (p2 &&& (3 : Int32))), .val (.int n3), .val (.int u0), .val (.int u1), .val (.int (p3 &&& (3 : Int32))), .val (.int n4), .val (.int j0), .val (.int j1), .val (.int 0), .unset]) (pc' := 303) (hb hy at_301) rfl rfl ?_
      refine o_new W40 (w4 hw) (w5 hw) (w6 hw) (fun _ E => IW.ext E W40.inv) (pc' := 306) (hb hy at_303) rfl (cells' := 1) (slots' := 3) rfl rfl (by decide) (by decide) ?_
      intro b42 T42 h42 W42 E42 ge42 gz42 gb42 A42 D42
      have Fb42_replica : Fld Z h42 b42 "com/example/plebiscite/plebiscite/core/Cursor" "replica" "Ljava/lang/String;" .null := D42 (Or.inr (w57 hw)) (ty := (.object "java/lang/String")) (by decide)
      have Fb42_epoch : Fld Z h42 b42 "com/example/plebiscite/plebiscite/core/Cursor" "epoch" "Ljava/lang/String;" .null := D42 (Or.inr (w59 hw)) (ty := (.object "java/lang/String")) (by decide)
      have Fb42_point : Fld Z h42 b42 "com/example/plebiscite/plebiscite/core/Cursor" "point" "Lcom/example/plebiscite/plebiscite/core/Multilog$Point;" .null := D42 (Or.inr (w61 hw)) (ty := (.object "com/example/plebiscite/plebiscite/core/Multilog$Point")) (by decide)
      refine o_dup W42 (pc' := 307) (hb hy at_306) rfl rfl ?_
      refine o_iload W42 (pc' := 309) (hb hy at_307) rfl rfl ?_
      refine o_iload W42 (pc' := 311) (hb hy at_309) rfl rfl ?_
      refine o_iload W42 (pc' := 313) (hb hy at_311) rfl rfl ?_
      refine o_staticW W42 (y := (⟨"com/example/plebiscite/plebiscite/core/CursorGivenByPinLaw", "str", "(ICC)Ljava/lang/String;"⟩ : MethodName)) (w7 hw) (w8 hw) (w2 hw) (w9 hw) (by decide) (argsL := [(.int ((p0 &&& (3 : Int32)) % (3 : Int32))), (.int (((p0.toUInt32 >>> ((2 : Int32) &&& 31).toUInt32).toInt32) &&& (255 : Int32))), (.int (((p0.toUInt32 >>> ((10 : Int32) &&& 31).toUInt32).toInt32) &&& (255 : Int32)))]) (CtrW.back (Wd := 2) W42 (rm7 l Z a0 hw gCS ((p0 &&& (3 : Int32)) % (3 : Int32)) (((p0.toUInt32 >>> ((2 : Int32) &&& 31).toUInt32).toInt32) &&& (255 : Int32)) (((p0.toUInt32 >>> ((10 : Int32) &&& 31).toUInt32).toInt32) &&& (255 : Int32)) h42 W42.old SgCS NgCS (own_b255 _) (own_b255 _)) (w9 hw) (w2 hw) (by decide) (by decide) (own_EL hw)) (by rw [hml]; rfl) (lenOf pd7 rfl) (S := [(.ref b42), (.ref b42)]) rfl (by exact Nat.le_of_eq rfl) (pc' := 316) (hb hy at_313) rfl (cells' := 7) (slots' := 15) rfl rfl (by decide) (by decide) (wy := []) (fun _ _ _ q => ⟨q.1, q.2.1⟩) all0  ?_
      intro v43 T43 h43 V43 lo43 W43 K43 C43 q43
      obtain ⟨r1_43, r2_43, r3_43, P43_0, P43_1, P43_2, P43_3, P43_4, rfl⟩ := q43.2.2
      show Gl _ _ _ _ _ _ _ _ [(.ref r1_43), (.ref b42), (.ref b42)]
      refine o_iload W43 (pc' := 318) (hb hy at_316) rfl rfl ?_
      refine o_iload W43 (pc' := 320) (hb hy at_318) rfl rfl ?_
      refine o_iload W43 (pc' := 322) (hb hy at_320) rfl rfl ?_
      refine o_staticW W43 (y := (⟨"com/example/plebiscite/plebiscite/core/CursorGivenByPinLaw", "str", "(ICC)Ljava/lang/String;"⟩ : MethodName)) (w7 hw) (w8 hw) (w2 hw) (w9 hw) (by decide) (argsL := [(.int ((p1 &&& (3 : Int32)) % (3 : Int32))), (.int (((p1.toUInt32 >>> ((2 : Int32) &&& 31).toUInt32).toInt32) &&& (255 : Int32))), (.int (((p1.toUInt32 >>> ((10 : Int32) &&& 31).toUInt32).toInt32) &&& (255 : Int32)))]) (CtrW.back (Wd := 3) W43 (rm7 l Z a0 hw gCS ((p1 &&& (3 : Int32)) % (3 : Int32)) (((p1.toUInt32 >>> ((2 : Int32) &&& 31).toUInt32).toInt32) &&& (255 : Int32)) (((p1.toUInt32 >>> ((10 : Int32) &&& 31).toUInt32).toInt32) &&& (255 : Int32)) h43 W43.old SgCS NgCS (own_b255 _) (own_b255 _)) (w9 hw) (w2 hw) (by decide) (by decide) (own_EL hw)) (by rw [hml]; rfl) (lenOf pd7 rfl) (S := [(.ref r1_43), (.ref b42), (.ref b42)]) rfl (by exact Nat.le_of_eq rfl) (pc' := 325) (hb hy at_322) rfl (cells' := 13) (slots' := 27) rfl rfl (by decide) (by decide) (wy := []) (fun _ _ _ q => ⟨q.1, q.2.1⟩) all0  ?_
      intro v44 T44 h44 V44 lo44 W44 K44 C44 q44
      obtain ⟨r1_44, r2_44, r3_44, P44_0, P44_1, P44_2, P44_3, P44_4, rfl⟩ := q44.2.2
      show Gl _ _ _ _ _ _ _ _ [(.ref r1_44), (.ref r1_43), (.ref b42), (.ref b42)]
      refine o_new W44 (w32 hw) (w33 hw) (w34 hw) (fun _ E => IW.ext E W44.inv) (pc' := 328) (hb hy at_325) rfl (cells' := 14) (slots' := 31) rfl rfl (by decide) (by decide) ?_
      intro b45 T45 h45 W45 E45 ge45 gz45 gb45 A45 D45
      have Fb45_actions : Fld Z h45 b45 "com/example/plebiscite/plebiscite/core/Multilog$Point" "actions" "J" (.long (0 : Int64)) := D45 (Or.inr (w45 hw)) (ty := .long) (by decide)
      have Fb45_constraints : Fld Z h45 b45 "com/example/plebiscite/plebiscite/core/Multilog$Point" "constraints" "J" (.long (0 : Int64)) := D45 (Or.inr (w47 hw)) (ty := .long) (by decide)
      have Fb45_guarantees : Fld Z h45 b45 "com/example/plebiscite/plebiscite/core/Multilog$Point" "guarantees" "J" (.long (0 : Int64)) := D45 (Or.inr (w49 hw)) (ty := .long) (by decide)
      have Fb45_kills : Fld Z h45 b45 "com/example/plebiscite/plebiscite/core/Multilog$Point" "kills" "J" (.long (0 : Int64)) := D45 (Or.inr (w51 hw)) (ty := .long) (by decide)
      refine o_dup W45 (pc' := 329) (hb hy at_328) rfl rfl ?_
      refine o_lload W45 (pc' := 331) (hb hy at_329) rfl rfl ?_
      refine o_lload W45 (pc' := 333) (hb hy at_331) rfl rfl ?_
      refine o_lload W45 (pc' := 335) (hb hy at_333) rfl rfl ?_
      refine o_lload W45 (pc' := 337) (hb hy at_335) rfl rfl ?_
      refine o_lxor W45 (v := (p4 ^^^ p5)) (pc' := 338) (hb hy at_337) rfl rfl ?_
      refine o_lload W45 (pc' := 340) (hb hy at_338) rfl rfl ?_
      refine o_lload W45 (pc' := 342) (hb hy at_340) rfl rfl ?_
      refine o_lsub W45 (v := (p5 - p4)) (pc' := 343) (hb hy at_342) rfl rfl ?_
      refine o_special W45 (y := (⟨"com/example/plebiscite/plebiscite/core/Multilog$Point", "<init>", "(JJJJ)V"⟩ : MethodName)) rfl (w35 hw) (w36 hw) (w37 hw) (by decide) (a := b45) (argsL := [(.long p4), (.long p5), (.long (p4 ^^^ p5)), (.long (p5 - p4))]) (CtrN.back (Wd := 5) W45 (rm10 l Z a0 hw b45 p4 p5 (p4 ^^^ p5) (p5 - p4) h45 W45.old A45 Fb45_actions gz45 Fb45_constraints Fb45_guarantees Fb45_kills) (w37 hw) (w34 hw) (by decide) (by decide)) (by rw [hml]; rfl) (lenOf pd9 rfl) (S := [(.ref b45), (.ref r1_44), (.ref r1_43), (.ref b42), (.ref b42)]) rfl (by exact Nat.le_of_eq rfl) (pc' := 346) (hb hy at_343) rfl (cells' := 14) (slots' := 31) rfl rfl (by decide) (by decide) (wy := [b45]) (fun _ _ _ q => ⟨q.1, q.2.1⟩) (allS ⟨gz45, (Or.inr gb45)⟩ all0) (fun _ K => IW.keep K (sfS (Safe.exa W45.al A45 (by decide) (by decide)) sf0) W45.inv) ?_
      intro v46 T46 h46 lo46 W46 K46 q46
      obtain ⟨P46_0, P46_1, P46_2, P46_3, rfl⟩ := q46.2.2
      show Gl _ _ _ _ _ _ _ _ [(.ref b45), (.ref r1_44), (.ref r1_43), (.ref b42), (.ref b42)]
      have c47 := ((A42.keep K43).keep K44)
      have c48 := ((((Fb42_replica.keep K43 nin0).keep K44 nin0).ext E45).keep K46 (ninS (own_ne c47.lt ge45) nin0))
      have c49 := ((((Fb42_epoch.keep K43 nin0).keep K44 nin0).ext E45).keep K46 (ninS (own_ne c47.lt ge45) nin0))
      have c50 := ((((Fb42_point.keep K43 nin0).keep K44 nin0).ext E45).keep K46 (ninS (own_ne c47.lt ge45) nin0))
      have c51 := ((c47.ext E45).keep K46)
      refine o_special W46 (y := (⟨"com/example/plebiscite/plebiscite/core/Cursor", "<init>", "(Ljava/lang/String;Ljava/lang/String;Lcom/example/plebiscite/plebiscite/core/Multilog$Point;)V"⟩ : MethodName)) rfl (w52 hw) (w53 hw) (w54 hw) (by decide) (a := b42) (argsL := [(.ref r1_43), (.ref r1_44), (.ref b45)]) (CtrN.back (Wd := 1) W46 (rm11 l Z a0 hw b42 r1_43 r1_44 b45 h46 W46.old c51 c48 gz42 c49 c50) (w54 hw) (w6 hw) (by decide) (by decide)) (by rw [hml]; rfl) (lenOf pd10 rfl) (S := [(.ref b42)]) rfl (by exact Nat.le_of_eq rfl) (pc' := 349) (hb hy at_346) rfl (cells' := 14) (slots' := 31) rfl rfl (by decide) (by decide) (wy := [b42]) (fun _ _ _ q => ⟨q.1, q.2.1⟩) (allS ⟨gz42, (Or.inr gb42)⟩ all0) (fun _ K => IW.keep K (sfS (Safe.exa W46.al c51 (by decide) (by decide)) sf0) W46.inv) ?_
      intro v52 T52 h52 lo52 W52 K52 q52
      obtain ⟨P52_0, P52_1, P52_2, rfl⟩ := q52.2.2
      show Gl _ _ _ _ _ _ _ _ [(.ref b42)]
      refine o_astore W52 (L' := #[.val (.int p0), .val (.int p1), .val (.int p2), .val (.int p3), .val (.long p4), .second, .val (.long p5), .second, .val (.int ((p0 &&& (3 : Int32)) % (3 : Int32))), .val (.int (((p0.toUInt32 >>> ((2 : Int32) &&& 31).toUInt32).toInt32) &&& (255 : Int32))), .val (.int (((p0.toUInt32 >>> ((10 : Int32) &&& 31).toUInt32).toInt32) &&& (255 : Int32))), .val (.int ((p1 &&& (3 : Int32)) % (3 : Int32))), .val (.int (((p1.toUInt32 >>> ((2 : Int32) &&& 31).toUInt32).toInt32) &&& (255 : Int32))), .val (.int (((p1.toUInt32 >>> ((10 : Int32) &&& 31).toUInt32).toInt32) &&& (255 : Int32))), .val (.int (p2 &&& (3 : Int32))), .val (.int n3), .val (.int u0), .val (.int u1), .val (.int (p3 &&& (3 : Int32))), .val (.int n4), .val (.int j0), .val (.int j1), .val (.int 0), .val (.ref b42)]) (pc' := 351) (hb hy at_349) rfl rfl rfl ?_
      refine o_aload W52 (pc' := 353) (hb hy at_351) rfl rfl rfl ?_
      refine o_iload W52 (pc' := 355) (hb hy at_353) rfl rfl ?_
      refine o_iload W52 (pc' := 357) (hb hy at_355) rfl rfl ?_
      refine o_iload W52 (pc' := 359) (hb hy at_357) rfl rfl ?_
      refine o_staticW W52 (y := (⟨"com/example/plebiscite/plebiscite/core/CursorGivenByPinLaw", "str", "(ICC)Ljava/lang/String;"⟩ : MethodName)) (w7 hw) (w8 hw) (w2 hw) (w9 hw) (by decide) (argsL := [(.int n3), (.int u0), (.int u1)]) (CtrW.back (Wd := 1) W52 (rm7 l Z a0 hw gCS n3 u0 u1 h52 W52.old SgCS NgCS hm2.2.1 hm2.2.2) (w9 hw) (w2 hw) (by decide) (by decide) (own_EL hw)) (by rw [hml]; rfl) (lenOf pd7 rfl) (S := [(.ref b42)]) rfl (by exact Nat.le_of_eq rfl) (pc' := 362) (hb hy at_359) rfl (cells' := 20) (slots' := 43) rfl rfl (by decide) (by decide) (wy := []) (fun _ _ _ q => ⟨q.1, q.2.1⟩) all0  ?_
      intro v53 T53 h53 V53 lo53 W53 K53 C53 q53
      obtain ⟨r1_53, r2_53, r3_53, P53_0, P53_1, P53_2, P53_3, P53_4, rfl⟩ := q53.2.2
      show Gl _ _ _ _ _ _ _ _ [(.ref r1_53), (.ref b42)]
      refine o_iload W53 (pc' := 364) (hb hy at_362) rfl rfl ?_
      refine o_iload W53 (pc' := 366) (hb hy at_364) rfl rfl ?_
      refine o_iload W53 (pc' := 368) (hb hy at_366) rfl rfl ?_
      refine o_staticW W53 (y := (⟨"com/example/plebiscite/plebiscite/core/CursorGivenByPinLaw", "str", "(ICC)Ljava/lang/String;"⟩ : MethodName)) (w7 hw) (w8 hw) (w2 hw) (w9 hw) (by decide) (argsL := [(.int n4), (.int j0), (.int j1)]) (CtrW.back (Wd := 2) W53 (rm7 l Z a0 hw gCS n4 j0 j1 h53 W53.old SgCS NgCS hm7.2.1 hm7.2.2) (w9 hw) (w2 hw) (by decide) (by decide) (own_EL hw)) (by rw [hml]; rfl) (lenOf pd7 rfl) (S := [(.ref r1_53), (.ref b42)]) rfl (by exact Nat.le_of_eq rfl) (pc' := 371) (hb hy at_368) rfl (cells' := 26) (slots' := 55) rfl rfl (by decide) (by decide) (wy := []) (fun _ _ _ q => ⟨q.1, q.2.1⟩) all0  ?_
      intro v54 T54 h54 V54 lo54 W54 K54 C54 q54
      obtain ⟨r1_54, r2_54, r3_54, P54_0, P54_1, P54_2, P54_3, P54_4, rfl⟩ := q54.2.2
      show Gl _ _ _ _ _ _ _ _ [(.ref r1_54), (.ref r1_53), (.ref b42)]
      have c55 := ((P52_0.keep K53 nin0).keep K54 nin0)
      have c56 := (P43_1.keep K44)
      have c57 := ((((((P43_3.keep K44 nin0).ext E45).keep K46 (ninS (own_ne c56.lt ge45) nin0)).keep K52 (ninS (own_ne' A42.lt P43_0) nin0)).keep K53 nin0).keep K54 nin0)
      have c58 := ((((((P43_2.keep K44 nin0).ext E45).keep K46 (ninS (own_ne c56.lt ge45) nin0)).keep K52 (ninS (own_ne' A42.lt P43_0) nin0)).keep K53 nin0).keep K54 nin0)
      have c59 := (P43_4.keep K44 nin0)
      have c60 := (((c51.keep K52).keep K53).keep K54)
      have c61 := ((c59.ext E45).keep K46 (ninS (own_ne c59.lt ge45) nin0))
      have c62 := ((((((P43_4.keep K44 nin0).ext E45).keep K46 (ninS (own_ne c59.lt ge45) nin0)).keep K52 (ninS (Ne.symm (Exa.neArv c51 c61 (w5 hw))) nin0)).keep K53 nin0).keep K54 nin0)
      have c63 := (P53_3.keep K54 nin0)
      have c64 := (P53_2.keep K54 nin0)
      have c65 := (P53_4.keep K54 nin0)
      have c66 := ((P52_1.keep K53 nin0).keep K54 nin0)
      have c67 := (A42.keep K43)
      have c68 := (((((P44_3.ext E45).keep K46 (ninS (own_ne P44_1.lt ge45) nin0)).keep K52 (ninS (own_ne' c67.lt P44_0) nin0)).keep K53 nin0).keep K54 nin0)
      have c69 := (((((P44_2.ext E45).keep K46 (ninS (own_ne P44_1.lt ge45) nin0)).keep K52 (ninS (own_ne' c67.lt P44_0) nin0)).keep K53 nin0).keep K54 nin0)
      have c70 := ((P44_4.ext E45).keep K46 (ninS (own_ne P44_4.lt ge45) nin0))
      have c71 := (((((P44_4.ext E45).keep K46 (ninS (own_ne P44_4.lt ge45) nin0)).keep K52 (ninS (Ne.symm (Exa.neArv c51 c70 (w5 hw))) nin0)).keep K53 nin0).keep K54 nin0)
      have c72 := (((((c56.ext E45).keep K46).keep K52).keep K53).keep K54)
      have c73 := (P53_1.keep K54)
      have c74 := (((((P44_1.ext E45).keep K46).keep K52).keep K53).keep K54)
      refine o_virtual W54 (y := (⟨"com/example/plebiscite/plebiscite/core/Cursor", "givenBy", "(Ljava/lang/String;Ljava/lang/String;)Z"⟩ : MethodName)) (z := (⟨"com/example/plebiscite/plebiscite/core/Cursor", "givenBy", "(Ljava/lang/String;Ljava/lang/String;)Z"⟩ : MethodName)) (w62 hw) (w63 hw) (o_nf W54 rfl (w65 hw)) (w65 hw) (w64 hw) (by decide) c60 (argsL := [(.ref r1_53), (.ref r1_54)]) (CtrN.back (Wd := 0) W54 (rm13 l Z a0 hw gCS b42 r1_53 r1_54 r1_43 r2_43 r3_43 (own_cs2 ((p0 &&& (3 : Int32)) % (3 : Int32)) (((p0.toUInt32 >>> ((2 : Int32) &&& 31).toUInt32).toInt32) &&& (255 : Int32)) (((p0.toUInt32 >>> ((10 : Int32) &&& 31).toUInt32).toInt32) &&& (255 : Int32))) r2_53 r3_53 (own_cs2 n3 u0 u1) r1_44 r2_44 r3_44 (own_cs2 ((p1 &&& (3 : Int32)) % (3 : Int32)) (((p1.toUInt32 >>> ((2 : Int32) &&& 31).toUInt32).toInt32) &&& (255 : Int32)) (((p1.toUInt32 >>> ((10 : Int32) &&& 31).toUInt32).toInt32) &&& (255 : Int32))) r2_54 r3_54 (own_cs2 n4 j0 j1) h54 W54.old c55 c72 SgCS NgCS c57 c58 c62 (own_cs2ok (own_b255 _) (own_b255 _)) c73 c63 c64 c65 (own_cs2ok hm2.2.1 hm2.2.2) he12 c66 c74 c68 c69 c71 (own_cs2ok (own_b255 _) (own_b255 _)) P54_1 P54_3 P54_2 P54_4 (own_cs2ok hm7.2.1 hm7.2.2) he41) (w66 hw) (w6 hw) (by decide) (by decide)) (by rw [hml]; rfl) (lenOf pd12 rfl) (S := []) rfl (by exact Nat.le_of_eq rfl) (pc' := 374) (hb hy at_371) rfl (cells' := 26) (slots' := 55) rfl rfl (by decide) (by decide) (wy := []) (fun _ _ _ q => ⟨q.1, q.2.1⟩) all0 (fun _ K => IW.keep K sf0 W54.inv) ?_
      intro v75 T75 h75 lo75 W75 K75 q75
      obtain rfl := q75.2.2
      show Gl _ _ _ _ _ _ _ _ [(.int 0)]
      refine o_iload W75 (pc' := 376) (hb hy at_374) rfl rfl ?_
      refine o_icmpN W75 (pc' := 379) (hb hy at_376) (XT.ii_ne_f (by decide)) rfl ?_
      refine o_iconst W75 (v := 1) (pc' := 380) (hb hy at_379) rfl rfl ?_
      refine o_goto W75 (pc' := 384) (hb hy at_380) (by decide) rfl ?_
      exact o_retNW W75 (own_EL hw) hlk (t := .boolean) hret (by simp) (z' := (1 : Int32)) (by decide) (hb hy at_384) (by decide) (by decide) rfl
    · refine o_ifN W40 (pc' := 296) (hb hy at_293) (XT.i0_eq_f he41) rfl ?_
      refine o_iconst W40 (v := 1) (pc' := 297) (hb hy at_296) rfl rfl ?_
      refine o_goto W40 (pc' := 301) (hb hy at_297) (by decide) rfl ?_
      refine o_istore W40 (L' := #[.val (.int p0), .val (.int p1), .val (.int p2), .val (.int p3), .val (.long p4), .second, .val (.long p5), .second, .val (.int ((p0 &&& (3 : Int32)) % (3 : Int32))), .val (.int (((p0.toUInt32 >>> ((2 : Int32) &&& 31).toUInt32).toInt32) &&& (255 : Int32))), .val (.int (((p0.toUInt32 >>> ((10 : Int32) &&& 31).toUInt32).toInt32) &&& (255 : Int32))), .val (.int ((p1 &&& (3 : Int32)) % (3 : Int32))), .val (.int (((p1.toUInt32 >>> ((2 : Int32) &&& 31).toUInt32).toInt32) &&& (255 : Int32))), .val (.int (((p1.toUInt32 >>> ((10 : Int32) &&& 31).toUInt32).toInt32) &&& (255 : Int32))), .val (.int (p2 &&& (3 : Int32))), .val (.int n3), .val (.int u0), .val (.int u1), .val (.int (p3 &&& (3 : Int32))), .val (.int n4), .val (.int j0), .val (.int j1), .val (.int 1), .unset]) (pc' := 303) (hb hy at_301) rfl rfl ?_
      refine o_new W40 (w4 hw) (w5 hw) (w6 hw) (fun _ E => IW.ext E W40.inv) (pc' := 306) (hb hy at_303) rfl (cells' := 1) (slots' := 3) rfl rfl (by decide) (by decide) ?_
      intro b76 T76 h76 W76 E76 ge76 gz76 gb76 A76 D76
      have Fb76_replica : Fld Z h76 b76 "com/example/plebiscite/plebiscite/core/Cursor" "replica" "Ljava/lang/String;" .null := D76 (Or.inr (w57 hw)) (ty := (.object "java/lang/String")) (by decide)
      have Fb76_epoch : Fld Z h76 b76 "com/example/plebiscite/plebiscite/core/Cursor" "epoch" "Ljava/lang/String;" .null := D76 (Or.inr (w59 hw)) (ty := (.object "java/lang/String")) (by decide)
      have Fb76_point : Fld Z h76 b76 "com/example/plebiscite/plebiscite/core/Cursor" "point" "Lcom/example/plebiscite/plebiscite/core/Multilog$Point;" .null := D76 (Or.inr (w61 hw)) (ty := (.object "com/example/plebiscite/plebiscite/core/Multilog$Point")) (by decide)
      refine o_dup W76 (pc' := 307) (hb hy at_306) rfl rfl ?_
      refine o_iload W76 (pc' := 309) (hb hy at_307) rfl rfl ?_
      refine o_iload W76 (pc' := 311) (hb hy at_309) rfl rfl ?_
      refine o_iload W76 (pc' := 313) (hb hy at_311) rfl rfl ?_
      refine o_staticW W76 (y := (⟨"com/example/plebiscite/plebiscite/core/CursorGivenByPinLaw", "str", "(ICC)Ljava/lang/String;"⟩ : MethodName)) (w7 hw) (w8 hw) (w2 hw) (w9 hw) (by decide) (argsL := [(.int ((p0 &&& (3 : Int32)) % (3 : Int32))), (.int (((p0.toUInt32 >>> ((2 : Int32) &&& 31).toUInt32).toInt32) &&& (255 : Int32))), (.int (((p0.toUInt32 >>> ((10 : Int32) &&& 31).toUInt32).toInt32) &&& (255 : Int32)))]) (CtrW.back (Wd := 2) W76 (rm7 l Z a0 hw gCS ((p0 &&& (3 : Int32)) % (3 : Int32)) (((p0.toUInt32 >>> ((2 : Int32) &&& 31).toUInt32).toInt32) &&& (255 : Int32)) (((p0.toUInt32 >>> ((10 : Int32) &&& 31).toUInt32).toInt32) &&& (255 : Int32)) h76 W76.old SgCS NgCS (own_b255 _) (own_b255 _)) (w9 hw) (w2 hw) (by decide) (by decide) (own_EL hw)) (by rw [hml]; rfl) (lenOf pd7 rfl) (S := [(.ref b76), (.ref b76)]) rfl (by exact Nat.le_of_eq rfl) (pc' := 316) (hb hy at_313) rfl (cells' := 7) (slots' := 15) rfl rfl (by decide) (by decide) (wy := []) (fun _ _ _ q => ⟨q.1, q.2.1⟩) all0  ?_
      intro v77 T77 h77 V77 lo77 W77 K77 C77 q77
      obtain ⟨r1_77, r2_77, r3_77, P77_0, P77_1, P77_2, P77_3, P77_4, rfl⟩ := q77.2.2
      show Gl _ _ _ _ _ _ _ _ [(.ref r1_77), (.ref b76), (.ref b76)]
      refine o_iload W77 (pc' := 318) (hb hy at_316) rfl rfl ?_
      refine o_iload W77 (pc' := 320) (hb hy at_318) rfl rfl ?_
      refine o_iload W77 (pc' := 322) (hb hy at_320) rfl rfl ?_
      refine o_staticW W77 (y := (⟨"com/example/plebiscite/plebiscite/core/CursorGivenByPinLaw", "str", "(ICC)Ljava/lang/String;"⟩ : MethodName)) (w7 hw) (w8 hw) (w2 hw) (w9 hw) (by decide) (argsL := [(.int ((p1 &&& (3 : Int32)) % (3 : Int32))), (.int (((p1.toUInt32 >>> ((2 : Int32) &&& 31).toUInt32).toInt32) &&& (255 : Int32))), (.int (((p1.toUInt32 >>> ((10 : Int32) &&& 31).toUInt32).toInt32) &&& (255 : Int32)))]) (CtrW.back (Wd := 3) W77 (rm7 l Z a0 hw gCS ((p1 &&& (3 : Int32)) % (3 : Int32)) (((p1.toUInt32 >>> ((2 : Int32) &&& 31).toUInt32).toInt32) &&& (255 : Int32)) (((p1.toUInt32 >>> ((10 : Int32) &&& 31).toUInt32).toInt32) &&& (255 : Int32)) h77 W77.old SgCS NgCS (own_b255 _) (own_b255 _)) (w9 hw) (w2 hw) (by decide) (by decide) (own_EL hw)) (by rw [hml]; rfl) (lenOf pd7 rfl) (S := [(.ref r1_77), (.ref b76), (.ref b76)]) rfl (by exact Nat.le_of_eq rfl) (pc' := 325) (hb hy at_322) rfl (cells' := 13) (slots' := 27) rfl rfl (by decide) (by decide) (wy := []) (fun _ _ _ q => ⟨q.1, q.2.1⟩) all0  ?_
      intro v78 T78 h78 V78 lo78 W78 K78 C78 q78
      obtain ⟨r1_78, r2_78, r3_78, P78_0, P78_1, P78_2, P78_3, P78_4, rfl⟩ := q78.2.2
      show Gl _ _ _ _ _ _ _ _ [(.ref r1_78), (.ref r1_77), (.ref b76), (.ref b76)]
      refine o_new W78 (w32 hw) (w33 hw) (w34 hw) (fun _ E => IW.ext E W78.inv) (pc' := 328) (hb hy at_325) rfl (cells' := 14) (slots' := 31) rfl rfl (by decide) (by decide) ?_
      intro b79 T79 h79 W79 E79 ge79 gz79 gb79 A79 D79
      have Fb79_actions : Fld Z h79 b79 "com/example/plebiscite/plebiscite/core/Multilog$Point" "actions" "J" (.long (0 : Int64)) := D79 (Or.inr (w45 hw)) (ty := .long) (by decide)
      have Fb79_constraints : Fld Z h79 b79 "com/example/plebiscite/plebiscite/core/Multilog$Point" "constraints" "J" (.long (0 : Int64)) := D79 (Or.inr (w47 hw)) (ty := .long) (by decide)
      have Fb79_guarantees : Fld Z h79 b79 "com/example/plebiscite/plebiscite/core/Multilog$Point" "guarantees" "J" (.long (0 : Int64)) := D79 (Or.inr (w49 hw)) (ty := .long) (by decide)
      have Fb79_kills : Fld Z h79 b79 "com/example/plebiscite/plebiscite/core/Multilog$Point" "kills" "J" (.long (0 : Int64)) := D79 (Or.inr (w51 hw)) (ty := .long) (by decide)
      refine o_dup W79 (pc' := 329) (hb hy at_328) rfl rfl ?_
      refine o_lload W79 (pc' := 331) (hb hy at_329) rfl rfl ?_
      refine o_lload W79 (pc' := 333) (hb hy at_331) rfl rfl ?_
      refine o_lload W79 (pc' := 335) (hb hy at_333) rfl rfl ?_
      refine o_lload W79 (pc' := 337) (hb hy at_335) rfl rfl ?_
      refine o_lxor W79 (v := (p4 ^^^ p5)) (pc' := 338) (hb hy at_337) rfl rfl ?_
      refine o_lload W79 (pc' := 340) (hb hy at_338) rfl rfl ?_
      refine o_lload W79 (pc' := 342) (hb hy at_340) rfl rfl ?_
      refine o_lsub W79 (v := (p5 - p4)) (pc' := 343) (hb hy at_342) rfl rfl ?_
      refine o_special W79 (y := (⟨"com/example/plebiscite/plebiscite/core/Multilog$Point", "<init>", "(JJJJ)V"⟩ : MethodName)) rfl (w35 hw) (w36 hw) (w37 hw) (by decide) (a := b79) (argsL := [(.long p4), (.long p5), (.long (p4 ^^^ p5)), (.long (p5 - p4))]) (CtrN.back (Wd := 5) W79 (rm10 l Z a0 hw b79 p4 p5 (p4 ^^^ p5) (p5 - p4) h79 W79.old A79 Fb79_actions gz79 Fb79_constraints Fb79_guarantees Fb79_kills) (w37 hw) (w34 hw) (by decide) (by decide)) (by rw [hml]; rfl) (lenOf pd9 rfl) (S := [(.ref b79), (.ref r1_78), (.ref r1_77), (.ref b76), (.ref b76)]) rfl (by exact Nat.le_of_eq rfl) (pc' := 346) (hb hy at_343) rfl (cells' := 14) (slots' := 31) rfl rfl (by decide) (by decide) (wy := [b79]) (fun _ _ _ q => ⟨q.1, q.2.1⟩) (allS ⟨gz79, (Or.inr gb79)⟩ all0) (fun _ K => IW.keep K (sfS (Safe.exa W79.al A79 (by decide) (by decide)) sf0) W79.inv) ?_
      intro v80 T80 h80 lo80 W80 K80 q80
      obtain ⟨P80_0, P80_1, P80_2, P80_3, rfl⟩ := q80.2.2
      show Gl _ _ _ _ _ _ _ _ [(.ref b79), (.ref r1_78), (.ref r1_77), (.ref b76), (.ref b76)]
      have c81 := ((A76.keep K77).keep K78)
      have c82 := ((((Fb76_replica.keep K77 nin0).keep K78 nin0).ext E79).keep K80 (ninS (own_ne c81.lt ge79) nin0))
      have c83 := ((((Fb76_epoch.keep K77 nin0).keep K78 nin0).ext E79).keep K80 (ninS (own_ne c81.lt ge79) nin0))
      have c84 := ((((Fb76_point.keep K77 nin0).keep K78 nin0).ext E79).keep K80 (ninS (own_ne c81.lt ge79) nin0))
      have c85 := ((c81.ext E79).keep K80)
      refine o_special W80 (y := (⟨"com/example/plebiscite/plebiscite/core/Cursor", "<init>", "(Ljava/lang/String;Ljava/lang/String;Lcom/example/plebiscite/plebiscite/core/Multilog$Point;)V"⟩ : MethodName)) rfl (w52 hw) (w53 hw) (w54 hw) (by decide) (a := b76) (argsL := [(.ref r1_77), (.ref r1_78), (.ref b79)]) (CtrN.back (Wd := 1) W80 (rm11 l Z a0 hw b76 r1_77 r1_78 b79 h80 W80.old c85 c82 gz76 c83 c84) (w54 hw) (w6 hw) (by decide) (by decide)) (by rw [hml]; rfl) (lenOf pd10 rfl) (S := [(.ref b76)]) rfl (by exact Nat.le_of_eq rfl) (pc' := 349) (hb hy at_346) rfl (cells' := 14) (slots' := 31) rfl rfl (by decide) (by decide) (wy := [b76]) (fun _ _ _ q => ⟨q.1, q.2.1⟩) (allS ⟨gz76, (Or.inr gb76)⟩ all0) (fun _ K => IW.keep K (sfS (Safe.exa W80.al c85 (by decide) (by decide)) sf0) W80.inv) ?_
      intro v86 T86 h86 lo86 W86 K86 q86
      obtain ⟨P86_0, P86_1, P86_2, rfl⟩ := q86.2.2
      show Gl _ _ _ _ _ _ _ _ [(.ref b76)]
      refine o_astore W86 (L' := #[.val (.int p0), .val (.int p1), .val (.int p2), .val (.int p3), .val (.long p4), .second, .val (.long p5), .second, .val (.int ((p0 &&& (3 : Int32)) % (3 : Int32))), .val (.int (((p0.toUInt32 >>> ((2 : Int32) &&& 31).toUInt32).toInt32) &&& (255 : Int32))), .val (.int (((p0.toUInt32 >>> ((10 : Int32) &&& 31).toUInt32).toInt32) &&& (255 : Int32))), .val (.int ((p1 &&& (3 : Int32)) % (3 : Int32))), .val (.int (((p1.toUInt32 >>> ((2 : Int32) &&& 31).toUInt32).toInt32) &&& (255 : Int32))), .val (.int (((p1.toUInt32 >>> ((10 : Int32) &&& 31).toUInt32).toInt32) &&& (255 : Int32))), .val (.int (p2 &&& (3 : Int32))), .val (.int n3), .val (.int u0), .val (.int u1), .val (.int (p3 &&& (3 : Int32))), .val (.int n4), .val (.int j0), .val (.int j1), .val (.int 1), .val (.ref b76)]) (pc' := 351) (hb hy at_349) rfl rfl rfl ?_
      refine o_aload W86 (pc' := 353) (hb hy at_351) rfl rfl rfl ?_
      refine o_iload W86 (pc' := 355) (hb hy at_353) rfl rfl ?_
      refine o_iload W86 (pc' := 357) (hb hy at_355) rfl rfl ?_
      refine o_iload W86 (pc' := 359) (hb hy at_357) rfl rfl ?_
      refine o_staticW W86 (y := (⟨"com/example/plebiscite/plebiscite/core/CursorGivenByPinLaw", "str", "(ICC)Ljava/lang/String;"⟩ : MethodName)) (w7 hw) (w8 hw) (w2 hw) (w9 hw) (by decide) (argsL := [(.int n3), (.int u0), (.int u1)]) (CtrW.back (Wd := 1) W86 (rm7 l Z a0 hw gCS n3 u0 u1 h86 W86.old SgCS NgCS hm2.2.1 hm2.2.2) (w9 hw) (w2 hw) (by decide) (by decide) (own_EL hw)) (by rw [hml]; rfl) (lenOf pd7 rfl) (S := [(.ref b76)]) rfl (by exact Nat.le_of_eq rfl) (pc' := 362) (hb hy at_359) rfl (cells' := 20) (slots' := 43) rfl rfl (by decide) (by decide) (wy := []) (fun _ _ _ q => ⟨q.1, q.2.1⟩) all0  ?_
      intro v87 T87 h87 V87 lo87 W87 K87 C87 q87
      obtain ⟨r1_87, r2_87, r3_87, P87_0, P87_1, P87_2, P87_3, P87_4, rfl⟩ := q87.2.2
      show Gl _ _ _ _ _ _ _ _ [(.ref r1_87), (.ref b76)]
      refine o_iload W87 (pc' := 364) (hb hy at_362) rfl rfl ?_
      refine o_iload W87 (pc' := 366) (hb hy at_364) rfl rfl ?_
      refine o_iload W87 (pc' := 368) (hb hy at_366) rfl rfl ?_
      refine o_staticW W87 (y := (⟨"com/example/plebiscite/plebiscite/core/CursorGivenByPinLaw", "str", "(ICC)Ljava/lang/String;"⟩ : MethodName)) (w7 hw) (w8 hw) (w2 hw) (w9 hw) (by decide) (argsL := [(.int n4), (.int j0), (.int j1)]) (CtrW.back (Wd := 2) W87 (rm7 l Z a0 hw gCS n4 j0 j1 h87 W87.old SgCS NgCS hm7.2.1 hm7.2.2) (w9 hw) (w2 hw) (by decide) (by decide) (own_EL hw)) (by rw [hml]; rfl) (lenOf pd7 rfl) (S := [(.ref r1_87), (.ref b76)]) rfl (by exact Nat.le_of_eq rfl) (pc' := 371) (hb hy at_368) rfl (cells' := 26) (slots' := 55) rfl rfl (by decide) (by decide) (wy := []) (fun _ _ _ q => ⟨q.1, q.2.1⟩) all0  ?_
      intro v88 T88 h88 V88 lo88 W88 K88 C88 q88
      obtain ⟨r1_88, r2_88, r3_88, P88_0, P88_1, P88_2, P88_3, P88_4, rfl⟩ := q88.2.2
      show Gl _ _ _ _ _ _ _ _ [(.ref r1_88), (.ref r1_87), (.ref b76)]
      have c89 := ((P86_0.keep K87 nin0).keep K88 nin0)
      have c90 := (P77_1.keep K78)
      have c91 := ((((((P77_3.keep K78 nin0).ext E79).keep K80 (ninS (own_ne c90.lt ge79) nin0)).keep K86 (ninS (own_ne' A76.lt P77_0) nin0)).keep K87 nin0).keep K88 nin0)
      have c92 := ((((((P77_2.keep K78 nin0).ext E79).keep K80 (ninS (own_ne c90.lt ge79) nin0)).keep K86 (ninS (own_ne' A76.lt P77_0) nin0)).keep K87 nin0).keep K88 nin0)
      have c93 := (P77_4.keep K78 nin0)
      have c94 := (((c85.keep K86).keep K87).keep K88)
      have c95 := ((c93.ext E79).keep K80 (ninS (own_ne c93.lt ge79) nin0))
      have c96 := ((((((P77_4.keep K78 nin0).ext E79).keep K80 (ninS (own_ne c93.lt ge79) nin0)).keep K86 (ninS (Ne.symm (Exa.neArv c85 c95 (w5 hw))) nin0)).keep K87 nin0).keep K88 nin0)
      have c97 := (P87_3.keep K88 nin0)
      have c98 := (P87_2.keep K88 nin0)
      have c99 := (P87_4.keep K88 nin0)
      have c100 := ((P86_1.keep K87 nin0).keep K88 nin0)
      have c101 := (A76.keep K77)
      have c102 := (((((P78_3.ext E79).keep K80 (ninS (own_ne P78_1.lt ge79) nin0)).keep K86 (ninS (own_ne' c101.lt P78_0) nin0)).keep K87 nin0).keep K88 nin0)
      have c103 := (((((P78_2.ext E79).keep K80 (ninS (own_ne P78_1.lt ge79) nin0)).keep K86 (ninS (own_ne' c101.lt P78_0) nin0)).keep K87 nin0).keep K88 nin0)
      have c104 := ((P78_4.ext E79).keep K80 (ninS (own_ne P78_4.lt ge79) nin0))
      have c105 := (((((P78_4.ext E79).keep K80 (ninS (own_ne P78_4.lt ge79) nin0)).keep K86 (ninS (Ne.symm (Exa.neArv c85 c104 (w5 hw))) nin0)).keep K87 nin0).keep K88 nin0)
      have c106 := (((((c90.ext E79).keep K80).keep K86).keep K87).keep K88)
      have c107 := (P87_1.keep K88)
      have c108 := (((((P78_1.ext E79).keep K80).keep K86).keep K87).keep K88)
      refine o_virtual W88 (y := (⟨"com/example/plebiscite/plebiscite/core/Cursor", "givenBy", "(Ljava/lang/String;Ljava/lang/String;)Z"⟩ : MethodName)) (z := (⟨"com/example/plebiscite/plebiscite/core/Cursor", "givenBy", "(Ljava/lang/String;Ljava/lang/String;)Z"⟩ : MethodName)) (w62 hw) (w63 hw) (o_nf W88 rfl (w65 hw)) (w65 hw) (w64 hw) (by decide) c94 (argsL := [(.ref r1_87), (.ref r1_88)]) (CtrN.back (Wd := 0) W88 (rm14 l Z a0 hw gCS b76 r1_87 r1_88 r1_77 r2_77 r3_77 (own_cs2 ((p0 &&& (3 : Int32)) % (3 : Int32)) (((p0.toUInt32 >>> ((2 : Int32) &&& 31).toUInt32).toInt32) &&& (255 : Int32)) (((p0.toUInt32 >>> ((10 : Int32) &&& 31).toUInt32).toInt32) &&& (255 : Int32))) r2_87 r3_87 (own_cs2 n3 u0 u1) r1_78 r2_78 r3_78 (own_cs2 ((p1 &&& (3 : Int32)) % (3 : Int32)) (((p1.toUInt32 >>> ((2 : Int32) &&& 31).toUInt32).toInt32) &&& (255 : Int32)) (((p1.toUInt32 >>> ((10 : Int32) &&& 31).toUInt32).toInt32) &&& (255 : Int32))) r2_88 r3_88 (own_cs2 n4 j0 j1) h88 W88.old c89 c106 SgCS NgCS c91 c92 c96 (own_cs2ok (own_b255 _) (own_b255 _)) c107 c97 c98 c99 (own_cs2ok hm2.2.1 hm2.2.2) he12 c100 c108 c102 c103 c105 (own_cs2ok (own_b255 _) (own_b255 _)) P88_1 P88_3 P88_2 P88_4 (own_cs2ok hm7.2.1 hm7.2.2) he41) (w66 hw) (w6 hw) (by decide) (by decide)) (by rw [hml]; rfl) (lenOf pd12 rfl) (S := []) rfl (by exact Nat.le_of_eq rfl) (pc' := 374) (hb hy at_371) rfl (cells' := 26) (slots' := 55) rfl rfl (by decide) (by decide) (wy := []) (fun _ _ _ q => ⟨q.1, q.2.1⟩) all0 (fun _ K => IW.keep K sf0 W88.inv) ?_
      intro v109 T109 h109 lo109 W109 K109 q109
      obtain rfl := q109.2.2
      show Gl _ _ _ _ _ _ _ _ [(.int 1)]
      refine o_iload W109 (pc' := 376) (hb hy at_374) rfl rfl ?_
      refine o_icmpN W109 (pc' := 379) (hb hy at_376) (XT.ii_ne_f (by decide)) rfl ?_
      refine o_iconst W109 (v := 1) (pc' := 380) (hb hy at_379) rfl rfl ?_
      refine o_goto W109 (pc' := 384) (hb hy at_380) (by decide) rfl ?_
      exact o_retNW W109 (own_EL hw) hlk (t := .boolean) hret (by simp) (z' := (1 : Int32)) (by decide) (hb hy at_384) (by decide) (by decide) rfl
theorem comes_1 {Post : Tables → Env → Array Value → State → Outcome → State → Prop} (hpost : ∀ tb e args s v u, (limb_1_1.after args s (.returned v) u = true ∧ limb_1_2.after args s (.returned v) u = true ∧ True) → Jvm.ReturnedEndW s (.returned v) u (Jvm.fieldLocs frame_1_writes args s ++ Jvm.arrayLocs frame_1_arrays args s ++ Jvm.staticLocs frame_1_statics s) 40 1216 → Post tb e args s (.returned v) u) :
    ArmFor flags0 classFile x code maxLocals ret World_1 tables_1 room_1 Calls_1 rest_1 Pre_1 Post := by
  intro l hfl _ _ p e ha hc hk s m args below hf hA hF happ hP
  obtain ⟨hcalls, hrest, hpre⟩ := hP
  obtain ⟨-, -, -, hnamed, -, -, -, hat⟩ := (Spec.applies_iff hf).mp happ
  obtain ⟨hg, hn⟩ := and_e (Cond.before_iff.mp (show (Jvm.Cond.and given_1 narrow_1).before args s = true from hpre))
  obtain ⟨g1, g2⟩ := and_e hg
  obtain ⟨g3, g4⟩ := and_e g2
  obtain ⟨g5, g6⟩ := and_e g4
  obtain ⟨g7, g8⟩ := and_e g6
  obtain ⟨g9, g10⟩ := and_e g8
  obtain ⟨g11, g12⟩ := and_e g10
  obtain ⟨w0, w1, w2, w3, w4, w5, rfl⟩ : ∃ w0 w1 w2 w3 w4 w5 : Value, args = #[w0, w1, w2, w3, w4, w5] := by
    have hs : args.size = 6 := by simpa [Cond.value, given_1] using g1
    obtain ⟨L⟩ := args
    match L, hs with
    | [w0, w1, w2, w3, w4, w5], _ => exact ⟨w0, w1, w2, w3, w4, w5, rfl⟩
  obtain ⟨i0, ei0⟩ := is_v g3
  obtain rfl : w0 = (.int i0) := Option.some.inj ei0
  obtain ⟨i1, ei1⟩ := is_v g5
  obtain rfl : w1 = (.int i1) := Option.some.inj ei1
  obtain ⟨i2, ei2⟩ := is_v g7
  obtain rfl : w2 = (.int i2) := Option.some.inj ei2
  obtain ⟨i3, ei3⟩ := is_v g9
  obtain rfl : w3 = (.int i3) := Option.some.inj ei3
  obtain ⟨i4, ei4⟩ := isL_v g11
  obtain rfl : w4 = (.long i4) := Option.some.inj ei4
  obtain ⟨i5, ei5⟩ := isL_v g12
  obtain rfl : w5 = (.long i5) := Option.some.inj ei5
  have hw := fun d (hd : d ∈ tables_1) => atoms_spec (ws := Jvm.Cond.code x code maxLocals ret :: tables_1) hat d (List.mem_cons_of_mem _ hd)
  have hfit : Fit s := fun {y c} hc i hi => by
    obtain ⟨ha, rfl⟩ := Array.getElem?_eq_some_iff.mp hc
    have q := List.all_eq_true.mp ((Array.all_eq_true_iff_forall_mem.mp hF) _ (Array.getElem_mem ha)) i (List.mem_range.mpr hi)
    simpa [Array.getElem?_eq_getElem hi] using q
  obtain ⟨hsets, hown0⟩ := atoms_of _ (rest_1_c_eq ▸ (show rest_1_c.before _ s = true from hrest))
  obtain ⟨gCS, eCS⟩ := is_v (Cond.before_iff.mp (hsets _ (List.mem_of_getElem? (i := 1) rfl)))
  have SgCS := Sta.start eCS (Or.inl (hsets _ (List.mem_of_getElem? (i := 0) rfl)))
  have NgCS : ¬ (gCS = (0 : Int32)) := gotF (own_eqS eCS) (not_v (Cond.before_iff.mp (hsets _ (List.mem_of_getElem? (i := 2) rfl))))
  have hCH : CHv s consts_1 s.vm s.heap := CHv.start (own_EL hw) (show ∀ p ∈ consts_1, Jvm.Lit.constHeld s p.1 p.2 from hcalls.1) (show Jvm.Lit.compactW.before _ s = true from (hsets _ (List.mem_of_getElem? (i := 2) rfl))) (w25 hw) (w11 hw)
  obtain ⟨n, o, h1, h2, h3, _, L, rfl, ⟨N, -, rfl⟩, -, hq⟩ := rm_law l s _ hw gCS i0 i1 i2 i3 i4 i5 s.heap (Old.start s) SgCS NgCS p e ha hc hk s m _ below hf ((Spec.applies_iff_loose hf).mp happ).1 ⟨rfl, State.Warmed39.refl s, rfl, hCH⟩ trivial
  refine ⟨n, _, h1, h2, h3, hpost _ _ _ _ _ _ ⟨Cond.after_iff.mpr rfl, Cond.after_iff.mpr (eq_i res_at (Term.int_eval (1)) rfl), trivial⟩ ⟨hq.1, hq.2.1, hq.2.2.1, (hq.2.2.2.sift fun y hy => Or.inr (N y hy)).mono (by decide) (by decide)⟩⟩
theorem main_1_1 : Claimed_1_1 := comes_1 fun _ _ _ _ _ _ h hF => ⟨h.1, hF⟩
theorem main_1_2 : Claimed_1_2 := comes_1 fun _ _ _ _ _ _ h hF => ⟨h.2.1, hF⟩
end Jvm.Pilot.@@N@@
namespace Jvm.Pilot.@@N@@
open Jvm Jvm.ClassFile Sem Op Lib Jvm.Free Jvm.Stand Jvm.Pilot.@@N@@.Jvm.D
/-! MADE BY PROGRAM (witnessworld.py) out of the Statement's table words and the real class files: 22 classes; the members and pool entries that the words name. The judged class is class 1, her method 3. -/
namespace start1
open Jvm.ClassFile
def u (s : String) : CpInfo := .utf8 (stringToUtf16 s)
/-- a pool by its gaps: so many unusable entries, then the entry; so many at the end -/
def gap : Nat → List CpInfo → List CpInfo
  | 0, r => r
  | n + 1, r => .unusable :: gap n r
def poolList (es : List (Nat × CpInfo)) (last : Nat) : List CpInfo := es.foldr (fun e r => gap e.1 (e.2 :: r)) (gap last [])
def pool (es : List (Nat × CpInfo)) (last : Nat) : Array CpInfo := ⟨poolList es last⟩
def fileOf (pool : Array CpInfo) (this : Nat) (attrs : Array Attribute := #[]) (ms : Array MethodInfo := #[]) (fl : Nat := 33) (sup : Nat := 0) (ifs : Array Nat := #[]) (fds : Array FieldInfo := #[]) : ClassFile where
  minorVersion := 0
  majorVersion := 65
  constantPool := pool
  accessFlags := fl
  thisClass := this
  superClass := sup
  interfaces := ifs
  fields := fds
  methods := ms
  attributes := attrs
def plain (name : String) (sup : Option ClassId) : Class where
  name := name
  kind := .ordinary
  loader := none
  accessFlags := 33
  super := sup
  interfaces := #[]
  cf := none
  fields := #[]
  methods := #[]
  instanceTypes := #[]
  staticTypes := #[]
  resolved := #[]
  callSites := []
  init := .initialized
  statics := none
  mirror := none

def pool0 : Array CpInfo := pool [(5, u "<init>"), (0, u "()V"), (1, .class_ 10), (1, u "java/lang/Object")] 113

def k0c0 : Code := { maxStack := 0, maxLocals := 1, code := object_method_1_code, exceptionTable := #[], attributes := #[] }
def k0m0 : Method := { name := "<init>", desc := "()V", sig := { parameters := [], returnType := none }, accessFlags := 1, code := some k0c0 }
/-- java/lang/Object -/
def k0 : Class := { plain "java/lang/Object" none with
  accessFlags := 33
  interfaces := #[]
  cf := some (fileOf pool0 8 #[] #[{ accessFlags := 1, nameIndex := 5, descriptorIndex := 6, attributes := #[] }] 33 0 #[] #[])
  fields := #[]
  methods := #[k0m0]
  instanceTypes := #[]
  staticTypes := #[]
  resolved := Array.replicate 124 none
  statics := none }

def pool1 : Array CpInfo := pool [(2, .class_ 4), (1, u "java/lang/Object"), (0, u "<init>"), (0, u "()V"), (0, .class_ 8), (0, u "java/lang/String"), (0, .methodref 7 10), (0, .nameAndType 5 11), (0, u "([C)V"), (0, .methodref 7 13), (0, .nameAndType 14 15), (0, u "valueOf"), (0, u "(C)Ljava/lang/String;"), (0, .methodref 17 18), (0, .class_ 19), (0, .nameAndType 20 21), (0, u "com/example/plebiscite/plebiscite/core/CursorGivenByPinLaw"), (0, u "same"), (0, u "(ICCICC)Z"), (0, .class_ 23), (0, u "com/example/plebiscite/plebiscite/core/Cursor"), (0, .methodref 17 25), (0, .nameAndType 26 27), (0, u "str"), (0, u "(ICC)Ljava/lang/String;"), (0, .class_ 29), (0, u "com/example/plebiscite/plebiscite/core/Multilog$Point"), (0, .methodref 28 31), (0, .nameAndType 5 32), (0, u "(JJJJ)V"), (0, .methodref 22 34), (0, .nameAndType 5 35), (0, u "(Ljava/lang/String;Ljava/lang/String;Lcom/example/plebiscite/plebiscite/core/Multilog$Point;)V"), (0, .methodref 22 37), (0, .nameAndType 38 39), (0, u "givenBy"), (0, u "(Ljava/lang/String;Ljava/lang/String;)Z"), (3, u "law"), (0, u "(IIIIJJ)Z")] 6

def k1m0 : Method := { name := "<init>", desc := "()V", sig := { parameters := [], returnType := none }, accessFlags := 2, code := none }
def k1c1 : Code := { maxStack := 3, maxLocals := 4, code := method_2_code, exceptionTable := #[], attributes := #[] }
def k1m1 : Method := { name := "str", desc := "(ICC)Ljava/lang/String;", sig := { parameters := [.int, .char, .char], returnType := some (.object "java/lang/String") }, accessFlags := 10, code := some k1c1 }
def k1c2 : Code := { maxStack := 2, maxLocals := 6, code := method_3_code, exceptionTable := #[], attributes := #[] }
def k1m2 : Method := { name := "same", desc := "(ICCICC)Z", sig := { parameters := [.int, .char, .char, .int, .char, .char], returnType := some .boolean }, accessFlags := 10, code := some k1c2 }
def k1c3 : Code := { maxStack := 16, maxLocals := 24, code := code, exceptionTable := #[], attributes := #[] }
def k1m3 : Method := { name := "law", desc := "(IIIIJJ)Z", sig := { parameters := [.int, .int, .int, .int, .long, .long], returnType := some .boolean }, accessFlags := 9, code := some k1c3 }
/-- com/example/plebiscite/plebiscite/core/CursorGivenByPinLaw -/
def k1 : Class := { plain "com/example/plebiscite/plebiscite/core/CursorGivenByPinLaw" (some 0) with
  accessFlags := 49
  interfaces := #[]
  cf := some (fileOf pool1 17 #[] #[{ accessFlags := 2, nameIndex := 5, descriptorIndex := 6, attributes := #[] }, { accessFlags := 10, nameIndex := 26, descriptorIndex := 27, attributes := #[] }, { accessFlags := 10, nameIndex := 20, descriptorIndex := 21, attributes := #[] }, { accessFlags := 9, nameIndex := 43, descriptorIndex := 44, attributes := #[] }] 49 2 #[] #[])
  fields := #[]
  methods := #[k1m0, k1m1, k1m2, k1m3]
  instanceTypes := #[]
  staticTypes := #[]
  resolved := Array.replicate 51 none
  statics := none }

def pool2 : Array CpInfo := pool [(1, .methodref 2 3), (0, .class_ 4), (0, .nameAndType 5 6), (0, u "java/lang/Object"), (0, u "<init>"), (0, u "()V"), (0, .class_ 8), (0, u "java/lang/Record")] 13

def k2c0 : Code := { maxStack := 1, maxLocals := 1, code := jdk_30_method_1_code, exceptionTable := #[], attributes := #[] }
def k2m0 : Method := { name := "<init>", desc := "()V", sig := { parameters := [], returnType := none }, accessFlags := 4, code := some k2c0 }
/-- java/lang/Record -/
def k2 : Class := { plain "java/lang/Record" (some 0) with
  accessFlags := 1057
  interfaces := #[]
  cf := some (fileOf pool2 7 #[] #[{ accessFlags := 4, nameIndex := 5, descriptorIndex := 6, attributes := #[] }] 1057 2 #[] #[])
  fields := #[]
  methods := #[k2m0]
  instanceTypes := #[]
  staticTypes := #[]
  resolved := Array.replicate 22 none
  statics := none }

def pool3 : Array CpInfo := pool [(1, .methodref 2 3), (0, .class_ 4), (0, .nameAndType 5 6), (0, u "java/lang/Record"), (0, u "<init>"), (0, u "()V"), (0, .fieldref 8 9), (0, .class_ 10), (0, .nameAndType 11 12), (0, u "com/example/plebiscite/plebiscite/core/Cursor"), (0, u "replica"), (0, u "Ljava/lang/String;"), (0, .fieldref 8 14), (0, .nameAndType 15 12), (0, u "epoch"), (0, .fieldref 8 17), (0, .nameAndType 18 19), (0, u "point"), (0, u "Lcom/example/plebiscite/plebiscite/core/Multilog$Point;"), (89, u "(Ljava/lang/String;Ljava/lang/String;Lcom/example/plebiscite/plebiscite/core/Multilog$Point;)V"), (0, .methodref 111 112), (0, .class_ 113), (0, .nameAndType 114 115), (0, u "java/lang/String"), (0, u "equals"), (0, u "(Ljava/lang/Object;)Z"), (23, u "REPLICA"), (1, u "EPOCH"), (8, u "givenBy"), (0, u "(Ljava/lang/String;Ljava/lang/String;)Z")] 45

def k3c0 : Code := { maxStack := 2, maxLocals := 4, code := prog_21_method_1_code, exceptionTable := #[], attributes := #[] }
def k3m0 : Method := { name := "<init>", desc := "(Ljava/lang/String;Ljava/lang/String;Lcom/example/plebiscite/plebiscite/core/Multilog$Point;)V", sig := { parameters := [(.object "java/lang/String"), (.object "java/lang/String"), (.object "com/example/plebiscite/plebiscite/core/Multilog$Point")], returnType := none }, accessFlags := 0, code := some k3c0 }
def k3c1 : Code := { maxStack := 2, maxLocals := 3, code := prog_21_method_5_code, exceptionTable := #[], attributes := #[] }
def k3m1 : Method := { name := "givenBy", desc := "(Ljava/lang/String;Ljava/lang/String;)Z", sig := { parameters := [(.object "java/lang/String"), (.object "java/lang/String")], returnType := some .boolean }, accessFlags := 0, code := some k3c1 }
/-- com/example/plebiscite/plebiscite/core/Cursor -/
def k3 : Class := { plain "com/example/plebiscite/plebiscite/core/Cursor" (some 2) with
  accessFlags := 48
  interfaces := #[]
  cf := some (fileOf pool3 8 #[] #[{ accessFlags := 0, nameIndex := 5, descriptorIndex := 109, attributes := #[] }, { accessFlags := 0, nameIndex := 150, descriptorIndex := 151, attributes := #[] }] 48 2 #[] #[{ accessFlags := 18, nameIndex := 11, descriptorIndex := 12, attributes := #[] }, { accessFlags := 18, nameIndex := 15, descriptorIndex := 12, attributes := #[] }, { accessFlags := 18, nameIndex := 18, descriptorIndex := 19, attributes := #[] }, { accessFlags := 26, nameIndex := 139, descriptorIndex := 12, attributes := #[] }, { accessFlags := 26, nameIndex := 141, descriptorIndex := 12, attributes := #[] }])
  fields := #[{ name := "replica", type := (.object "java/lang/String"), accessFlags := 18, slot := 0, constantValue := 0 }, { name := "epoch", type := (.object "java/lang/String"), accessFlags := 18, slot := 1, constantValue := 0 }, { name := "point", type := (.object "com/example/plebiscite/plebiscite/core/Multilog$Point"), accessFlags := 18, slot := 2, constantValue := 0 }, { name := "REPLICA", type := (.object "java/lang/String"), accessFlags := 26, slot := 0, constantValue := 0 }, { name := "EPOCH", type := (.object "java/lang/String"), accessFlags := 26, slot := 1, constantValue := 0 }]
  methods := #[k3m0, k3m1]
  instanceTypes := #[(.object "java/lang/String"), (.object "java/lang/String"), (.object "com/example/plebiscite/plebiscite/core/Multilog$Point")]
  staticTypes := #[(.object "java/lang/String"), (.object "java/lang/String")]
  resolved := Array.replicate 197 none
  statics := none }

def pool4 : Array CpInfo := pool [(1, .class_ 2), (0, u "java/io/Serializable"), (0, .class_ 4), (0, u "java/lang/Object")] 2

/-- java/io/Serializable -/
def k4 : Class := { plain "java/io/Serializable" (some 0) with
  accessFlags := 1537
  interfaces := #[]
  cf := some (fileOf pool4 1 #[] #[] 1537 3 #[] #[])
  fields := #[]
  methods := #[]
  instanceTypes := #[]
  staticTypes := #[]
  resolved := Array.replicate 7 none
  statics := none }

def pool5 : Array CpInfo := pool [(1, .class_ 2), (0, u "java/lang/Comparable"), (0, .class_ 4), (0, u "java/lang/Object")] 7

/-- java/lang/Comparable -/
def k5 : Class := { plain "java/lang/Comparable" (some 0) with
  accessFlags := 1537
  interfaces := #[]
  cf := some (fileOf pool5 1 #[] #[] 1537 3 #[] #[])
  fields := #[]
  methods := #[]
  instanceTypes := #[]
  staticTypes := #[]
  resolved := Array.replicate 12 none
  statics := none }

def pool6 : Array CpInfo := pool [(2, .class_ 4), (1, u "java/lang/CharSequence"), (42, .class_ 48), (0, u "java/lang/CharSequence$1CodePointIterator"), (10, .class_ 60), (0, u "java/lang/CharSequence$1CharIterator"), (5, .class_ 67), (0, u "java/lang/Object")] 63

/-- java/lang/CharSequence -/
def k6 : Class := { plain "java/lang/CharSequence" (some 0) with
  accessFlags := 1537
  interfaces := #[]
  cf := some (fileOf pool6 2 #[.nestMembers #[47, 59]] #[] 1537 66 #[] #[])
  fields := #[]
  methods := #[]
  instanceTypes := #[]
  staticTypes := #[]
  resolved := Array.replicate 131 none
  statics := none }

def pool7 : Array CpInfo := pool [(1, .class_ 2), (0, u "java/lang/constant/Constable"), (0, .class_ 4), (0, u "java/lang/Object")] 6

/-- java/lang/constant/Constable -/
def k7 : Class := { plain "java/lang/constant/Constable" (some 0) with
  accessFlags := 1537
  interfaces := #[]
  cf := some (fileOf pool7 1 #[] #[] 1537 3 #[] #[])
  fields := #[]
  methods := #[]
  instanceTypes := #[]
  staticTypes := #[]
  resolved := Array.replicate 11 none
  statics := none }

def pool8 : Array CpInfo := pool [(1, .class_ 2), (0, u "java/lang/constant/ConstantDesc"), (0, .class_ 4), (0, u "java/lang/Object")] 32

/-- java/lang/constant/ConstantDesc -/
def k8 : Class := { plain "java/lang/constant/ConstantDesc" (some 0) with
  accessFlags := 1537
  interfaces := #[]
  cf := some (fileOf pool8 1 #[] #[] 1537 3 #[] #[])
  fields := #[]
  methods := #[]
  instanceTypes := #[]
  staticTypes := #[]
  resolved := Array.replicate 37 none
  statics := none }

def pool9 : Array CpInfo := pool [(1, .methodref 2 3), (0, .class_ 4), (0, .nameAndType 5 6), (0, u "java/lang/Object"), (0, u "<init>"), (0, u "()V"), (0, .string 8), (0, u ""), (0, .fieldref 10 11), (0, .class_ 12), (0, .nameAndType 13 14), (0, u "java/lang/String"), (0, u "value"), (0, u "[B"), (0, .fieldref 10 16), (0, .nameAndType 17 18), (0, u "coder"), (0, u "B"), (2, u "hash"), (0, u "I"), (2, u "hashIsZero"), (0, u "Z"), (0, .methodref 10 28), (0, .nameAndType 5 29), (0, u "([CIILjava/lang/Void;)V"), (8, .fieldref 10 39), (0, .nameAndType 40 26), (0, u "COMPACT_STRINGS"), (1, .class_ 44), (1, u "java/lang/StringUTF16"), (0, u "compress"), (1, .methodref 42 48), (0, .nameAndType 49 50), (0, u "coderFromArrayLen"), (0, u "([BI)B"), (2, u "toBytes"), (53, .class_ 109), (1, u "java/lang/StringLatin1"), (67, .methodref 42 178), (0, .nameAndType 45 179), (0, u "([CII)[B"), (29, .methodref 10 210), (0, .nameAndType 5 211), (0, u "([BB)V"), (157, u "(C)Z"), (171, .methodref 107 542), (0, .nameAndType 543 544), (0, u "equals"), (0, u "([B[B)Z"), (28, u "(Ljava/lang/Object;)Z"), (1, .class_ 576), (0, u "java/lang/CharSequence"), (22, u "CASE_INSENSITIVE_ORDER"), (0, u "Ljava/util/Comparator;"), (181, u "valueOf"), (0, u "(C)Ljava/lang/String;"), (226, u "([C)V"), (4, .methodref 107 1016), (0, .nameAndType 1017 369), (0, u "canEncode"), (0, .methodref 107 1019), (0, .nameAndType 53 1020), (0, u "(C)[B"), (80, u "serialPersistentFields"), (0, u "[Ljava/io/ObjectStreamField;"), (0, .class_ 1104), (0, u "java/lang/String$CaseInsensitiveComparator"), (1, .class_ 1107), (0, u "java/io/Serializable"), (0, .class_ 1109), (0, u "java/lang/Comparable"), (0, .class_ 1111), (0, u "java/lang/constant/Constable"), (0, .class_ 1113), (0, u "java/lang/constant/ConstantDesc"), (2, u "serialVersionUID"), (0, u "J"), (3, u "REPL"), (0, u "C"), (2, u "LATIN1"), (1, u "UTF16")] 323

def k9m0 : Method := { name := "<init>", desc := "()V", sig := { parameters := [], returnType := none }, accessFlags := 1, code := none }
def k9c1 : Code := { maxStack := 5, maxLocals := 2, code := jdk_42_method_3_code, exceptionTable := #[], attributes := #[] }
def k9m1 : Method := { name := "<init>", desc := "([C)V", sig := { parameters := [(.array .char)], returnType := none }, accessFlags := 1, code := some k9c1 }
def k9c2 : Code := { maxStack := 2, maxLocals := 3, code := jdk_42_method_66_code, exceptionTable := #[], attributes := #[] }
def k9m2 : Method := { name := "equals", desc := "(Ljava/lang/Object;)Z", sig := { parameters := [(.object "java/lang/Object")], returnType := some .boolean }, accessFlags := 1, code := some k9c2 }
def k9c3 : Code := { maxStack := 4, maxLocals := 1, code := jdk_42_method_139_code, exceptionTable := #[], attributes := #[] }
def k9m3 : Method := { name := "valueOf", desc := "(C)Ljava/lang/String;", sig := { parameters := [.char], returnType := some (.object "java/lang/String") }, accessFlags := 9, code := some k9c3 }
def k9c4 : Code := { maxStack := 4, maxLocals := 6, code := jdk_42_method_149_code, exceptionTable := #[], attributes := #[] }
def k9m4 : Method := { name := "<init>", desc := "([CIILjava/lang/Void;)V", sig := { parameters := [(.array .char), .int, .int, (.object "java/lang/Void")], returnType := none }, accessFlags := 2, code := some k9c4 }
def k9c5 : Code := { maxStack := 2, maxLocals := 3, code := jdk_42_method_151_code, exceptionTable := #[], attributes := #[] }
def k9m5 : Method := { name := "<init>", desc := "([BB)V", sig := { parameters := [(.array .byte), .byte], returnType := none }, accessFlags := 0, code := some k9c5 }
/-- java/lang/String -/
def k9 : Class := { plain "java/lang/String" (some 0) with
  accessFlags := 49
  interfaces := #[4, 5, 6, 7, 8]
  cf := some (fileOf pool9 10 #[.nestMembers #[1103]] #[{ accessFlags := 1, nameIndex := 5, descriptorIndex := 6, attributes := #[] }, { accessFlags := 1, nameIndex := 5, descriptorIndex := 1010, attributes := #[] }, { accessFlags := 1, nameIndex := 543, descriptorIndex := 573, attributes := #[] }, { accessFlags := 9, nameIndex := 782, descriptorIndex := 783, attributes := #[] }, { accessFlags := 2, nameIndex := 5, descriptorIndex := 29, attributes := #[] }, { accessFlags := 0, nameIndex := 5, descriptorIndex := 211, attributes := #[] }] 49 2 #[1106, 1108, 575, 1110, 1112] #[{ accessFlags := 18, nameIndex := 13, descriptorIndex := 14, attributes := #[] }, { accessFlags := 18, nameIndex := 17, descriptorIndex := 18, attributes := #[] }, { accessFlags := 2, nameIndex := 21, descriptorIndex := 22, attributes := #[] }, { accessFlags := 2, nameIndex := 25, descriptorIndex := 26, attributes := #[] }, { accessFlags := 26, nameIndex := 1116, descriptorIndex := 1117, attributes := #[] }, { accessFlags := 24, nameIndex := 40, descriptorIndex := 26, attributes := #[] }, { accessFlags := 26, nameIndex := 1101, descriptorIndex := 1102, attributes := #[] }, { accessFlags := 26, nameIndex := 1121, descriptorIndex := 1122, attributes := #[] }, { accessFlags := 25, nameIndex := 599, descriptorIndex := 600, attributes := #[] }, { accessFlags := 24, nameIndex := 1125, descriptorIndex := 18, attributes := #[] }, { accessFlags := 24, nameIndex := 1127, descriptorIndex := 18, attributes := #[] }])
  fields := #[{ name := "value", type := (.array .byte), accessFlags := 18, slot := 0, constantValue := 0 }, { name := "coder", type := .byte, accessFlags := 18, slot := 1, constantValue := 0 }, { name := "hash", type := .int, accessFlags := 2, slot := 2, constantValue := 0 }, { name := "hashIsZero", type := .boolean, accessFlags := 2, slot := 3, constantValue := 0 }, { name := "serialVersionUID", type := .long, accessFlags := 26, slot := 0, constantValue := 0 }, { name := "COMPACT_STRINGS", type := .boolean, accessFlags := 24, slot := 1, constantValue := 0 }, { name := "serialPersistentFields", type := (.array (.object "java/io/ObjectStreamField")), accessFlags := 26, slot := 2, constantValue := 0 }, { name := "REPL", type := .char, accessFlags := 26, slot := 3, constantValue := 0 }, { name := "CASE_INSENSITIVE_ORDER", type := (.object "java/util/Comparator"), accessFlags := 25, slot := 4, constantValue := 0 }, { name := "LATIN1", type := .byte, accessFlags := 24, slot := 5, constantValue := 0 }, { name := "UTF16", type := .byte, accessFlags := 24, slot := 6, constantValue := 0 }]
  methods := #[k9m0, k9m1, k9m2, k9m3, k9m4, k9m5]
  instanceTypes := #[(.array .byte), .byte, .int, .boolean]
  staticTypes := #[.long, .boolean, (.array (.object "java/io/ObjectStreamField")), .char, (.object "java/util/Comparator"), .byte, .byte]
  resolved := Array.replicate 1451 none
  statics := some 0 }

def pool10 : Array CpInfo := pool [(1, .methodref 2 3), (0, .class_ 4), (0, .nameAndType 5 6), (0, u "java/lang/Record"), (0, u "<init>"), (0, u "()V"), (0, .fieldref 8 9), (0, .class_ 10), (0, .nameAndType 11 12), (0, u "com/example/plebiscite/plebiscite/core/Multilog$Point"), (0, u "actions"), (0, u "J"), (0, .fieldref 8 14), (0, .nameAndType 15 12), (0, u "constraints"), (0, .fieldref 8 17), (0, .nameAndType 18 12), (0, u "guarantees"), (0, .fieldref 8 20), (0, .nameAndType 21 12), (0, u "kills"), (14, u "(JJJJ)V"), (2, u "BEGINNING"), (0, u "Lcom/example/plebiscite/plebiscite/core/Multilog$Point;"), (11, .class_ 53), (0, u "com/example/plebiscite/plebiscite/core/Multilog")] 22

def k10c0 : Code := { maxStack := 3, maxLocals := 9, code := prog_39_method_1_code, exceptionTable := #[], attributes := #[] }
def k10m0 : Method := { name := "<init>", desc := "(JJJJ)V", sig := { parameters := [.long, .long, .long, .long], returnType := none }, accessFlags := 0, code := some k10c0 }
/-- com/example/plebiscite/plebiscite/core/Multilog$Point -/
def k10 : Class := { plain "com/example/plebiscite/plebiscite/core/Multilog$Point" (some 2) with
  accessFlags := 48
  interfaces := #[]
  cf := some (fileOf pool10 8 #[.nestHost 52] #[{ accessFlags := 0, nameIndex := 5, descriptorIndex := 36, attributes := #[] }] 48 2 #[] #[{ accessFlags := 18, nameIndex := 11, descriptorIndex := 12, attributes := #[] }, { accessFlags := 18, nameIndex := 15, descriptorIndex := 12, attributes := #[] }, { accessFlags := 18, nameIndex := 18, descriptorIndex := 12, attributes := #[] }, { accessFlags := 18, nameIndex := 21, descriptorIndex := 12, attributes := #[] }, { accessFlags := 24, nameIndex := 39, descriptorIndex := 40, attributes := #[] }])
  fields := #[{ name := "actions", type := .long, accessFlags := 18, slot := 0, constantValue := 0 }, { name := "constraints", type := .long, accessFlags := 18, slot := 1, constantValue := 0 }, { name := "guarantees", type := .long, accessFlags := 18, slot := 2, constantValue := 0 }, { name := "kills", type := .long, accessFlags := 18, slot := 3, constantValue := 0 }, { name := "BEGINNING", type := (.object "com/example/plebiscite/plebiscite/core/Multilog$Point"), accessFlags := 24, slot := 0, constantValue := 0 }]
  methods := #[k10m0]
  instanceTypes := #[.long, .long, .long, .long]
  staticTypes := #[(.object "com/example/plebiscite/plebiscite/core/Multilog$Point")]
  resolved := Array.replicate 76 none
  statics := none }

def pool11 : Array CpInfo := pool [(4, .class_ 6), (1, u "java/lang/Object"), (0, u "<init>"), (0, u "()V"), (5, .class_ 16), (1, u "java/lang/StringLatin1"), (73, u "canEncode"), (14, u "(C)Z"), (15, u "$assertionsDisabled"), (0, u "Z"), (98, .class_ 223), (1, u "java/lang/StringLatin1$LinesSpliterator"), (57, u "equals"), (0, u "([B[B)Z"), (97, u "toBytes"), (1, u "(C)[B"), (7, .class_ 391), (0, u "java/lang/StringLatin1$CharsSpliterator")] 3

def k11m0 : Method := { name := "<init>", desc := "()V", sig := { parameters := [], returnType := none }, accessFlags := 0, code := none }
def k11c1 : Code := { maxStack := 2, maxLocals := 1, code := jdk_43_method_3_code, exceptionTable := #[], attributes := #[] }
def k11m1 : Method := { name := "canEncode", desc := "(C)Z", sig := { parameters := [.char], returnType := some .boolean }, accessFlags := 9, code := some k11c1 }
def k11c2 : Code := { maxStack := 3, maxLocals := 3, code := jdk_43_method_13_code, exceptionTable := #[], attributes := #[] }
def k11m2 : Method := { name := "equals", desc := "([B[B)Z", sig := { parameters := [(.array .byte), (.array .byte)], returnType := some .boolean }, accessFlags := 9, code := some k11c2 }
def k11c3 : Code := { maxStack := 4, maxLocals := 1, code := jdk_43_method_46_code, exceptionTable := #[], attributes := #[] }
def k11m3 : Method := { name := "toBytes", desc := "(C)[B", sig := { parameters := [.char], returnType := some (.array .byte) }, accessFlags := 9, code := some k11c3 }
/-- java/lang/StringLatin1 -/
def k11 : Class := { plain "java/lang/StringLatin1" (some 0) with
  accessFlags := 48
  interfaces := #[]
  cf := some (fileOf pool11 14 #[.nestMembers #[390, 221]] #[{ accessFlags := 0, nameIndex := 7, descriptorIndex := 8, attributes := #[] }, { accessFlags := 9, nameIndex := 90, descriptorIndex := 105, attributes := #[] }, { accessFlags := 9, nameIndex := 281, descriptorIndex := 282, attributes := #[] }, { accessFlags := 9, nameIndex := 380, descriptorIndex := 382, attributes := #[] }] 48 4 #[] #[{ accessFlags := 4120, nameIndex := 121, descriptorIndex := 122, attributes := #[] }])
  fields := #[{ name := "$assertionsDisabled", type := .boolean, accessFlags := 4120, slot := 0, constantValue := 0 }]
  methods := #[k11m0, k11m1, k11m2, k11m3]
  instanceTypes := #[]
  staticTypes := #[.boolean]
  resolved := Array.replicate 395 none
  statics := none }

def pool12 : Array CpInfo := pool [(6, .class_ 8), (1, u "java/lang/Object"), (0, u "<init>"), (0, u "()V"), (1, .class_ 14), (1, u "java/lang/StringUTF16"), (31, u "$assertionsDisabled"), (0, u "Z"), (13, u "HI_BYTE_SHIFT"), (0, u "I"), (2, u "LO_BYTE_SHIFT"), (49, .methodref 12 116), (0, .nameAndType 117 118), (0, u "compress"), (0, u "([CI[BII)I"), (3, u "([CII)[B"), (138, u "coderFromArrayLen"), (0, u "([BI)B"), (106, .class_ 371), (1, u "java/lang/StringUTF16$LinesSpliterator"), (58, u "MAX_LENGTH"), (196, .class_ 628), (0, u "java/lang/StringUTF16$CodePointsSpliterator"), (0, .class_ 630), (0, u "java/lang/StringUTF16$CharsSpliterator")] 4

def k12m0 : Method := { name := "<init>", desc := "()V", sig := { parameters := [], returnType := none }, accessFlags := 0, code := none }
def k12c1 : Code := { maxStack := 2, maxLocals := 2, code := jdk_52_method_15_code, exceptionTable := #[], attributes := #[] }
def k12m1 : Method := { name := "coderFromArrayLen", desc := "([BI)B", sig := { parameters := [(.array .byte), .int], returnType := some .byte }, accessFlags := 8, code := some k12c1 }
def k12c2 : Code := { maxStack := 5, maxLocals := 6, code := jdk_52_method_16_code, exceptionTable := #[], attributes := #[] }
def k12m2 : Method := { name := "compress", desc := "([CII)[B", sig := { parameters := [(.array .char), .int, .int], returnType := some (.array .byte) }, accessFlags := 9, code := some k12c2 }
def k12c3 : Code := { maxStack := 3, maxLocals := 7, code := jdk_52_method_21_code, exceptionTable := #[], attributes := #[] }
def k12m3 : Method := { name := "compress", desc := "([CI[BII)I", sig := { parameters := [(.array .char), .int, (.array .byte), .int, .int], returnType := some .int }, accessFlags := 9, code := some k12c3 }
/-- java/lang/StringUTF16 -/
def k12 : Class := { plain "java/lang/StringUTF16" (some 0) with
  accessFlags := 48
  interfaces := #[]
  cf := some (fileOf pool12 12 #[.nestMembers #[627, 629, 369]] #[{ accessFlags := 0, nameIndex := 9, descriptorIndex := 10, attributes := #[] }, { accessFlags := 8, nameIndex := 261, descriptorIndex := 262, attributes := #[] }, { accessFlags := 9, nameIndex := 117, descriptorIndex := 122, attributes := #[] }, { accessFlags := 9, nameIndex := 117, descriptorIndex := 118, attributes := #[] }] 48 6 #[] #[{ accessFlags := 26, nameIndex := 61, descriptorIndex := 62, attributes := #[] }, { accessFlags := 26, nameIndex := 65, descriptorIndex := 62, attributes := #[] }, { accessFlags := 24, nameIndex := 430, descriptorIndex := 62, attributes := #[] }, { accessFlags := 4120, nameIndex := 46, descriptorIndex := 47, attributes := #[] }])
  fields := #[{ name := "HI_BYTE_SHIFT", type := .int, accessFlags := 26, slot := 0, constantValue := 0 }, { name := "LO_BYTE_SHIFT", type := .int, accessFlags := 26, slot := 1, constantValue := 0 }, { name := "MAX_LENGTH", type := .int, accessFlags := 24, slot := 2, constantValue := 0 }, { name := "$assertionsDisabled", type := .boolean, accessFlags := 4120, slot := 3, constantValue := 0 }]
  methods := #[k12m0, k12m1, k12m2, k12m3]
  instanceTypes := #[]
  staticTypes := #[.int, .int, .int, .boolean]
  resolved := Array.replicate 635 none
  statics := none }

def pool13 : Array CpInfo := pool [(2, .class_ 4), (1, u "java/lang/Object"), (0, u "<init>"), (0, u "()V"), (17, .class_ 26), (1, u "jdk/internal/util/Preconditions"), (28, .class_ 56), (0, u "jdk/internal/util/Preconditions$4"), (57, .class_ 115), (0, u "jdk/internal/util/Preconditions$1"), (7, u "SIOOBE_FORMATTER"), (0, u "Ljava/util/function/BiFunction;"), (0, .class_ 126), (0, u "jdk/internal/util/Preconditions$2"), (3, u "AIOOBE_FORMATTER"), (0, .class_ 132), (0, u "jdk/internal/util/Preconditions$3"), (3, u "IOOBE_FORMATTER")] 57

def k13m0 : Method := { name := "<init>", desc := "()V", sig := { parameters := [], returnType := none }, accessFlags := 1, code := none }
/-- jdk/internal/util/Preconditions -/
def k13 : Class := { plain "jdk/internal/util/Preconditions" (some 0) with
  accessFlags := 33
  interfaces := #[]
  cf := some (fileOf pool13 24 #[.nestMembers #[55, 131, 125, 114]] #[{ accessFlags := 1, nameIndex := 5, descriptorIndex := 6, attributes := #[] }] 33 2 #[] #[{ accessFlags := 25, nameIndex := 123, descriptorIndex := 124, attributes := #[] }, { accessFlags := 25, nameIndex := 130, descriptorIndex := 124, attributes := #[] }, { accessFlags := 25, nameIndex := 136, descriptorIndex := 124, attributes := #[] }])
  fields := #[{ name := "SIOOBE_FORMATTER", type := (.object "java/util/function/BiFunction"), accessFlags := 25, slot := 0, constantValue := 0 }, { name := "AIOOBE_FORMATTER", type := (.object "java/util/function/BiFunction"), accessFlags := 25, slot := 1, constantValue := 0 }, { name := "IOOBE_FORMATTER", type := (.object "java/util/function/BiFunction"), accessFlags := 25, slot := 2, constantValue := 0 }]
  methods := #[k13m0]
  instanceTypes := #[]
  staticTypes := #[(.object "java/util/function/BiFunction"), (.object "java/util/function/BiFunction"), (.object "java/util/function/BiFunction")]
  resolved := Array.replicate 194 none
  statics := some 1 }

def pool14 : Array CpInfo := pool [(9, u "<init>"), (6, .class_ 18), (1, u "java/lang/Object"), (0, u "()V"), (1, .class_ 23), (1, u "jdk/internal/util/ArraysSupport"), (0, u "LOG2_ARRAY_LONG_INDEX_SCALE"), (0, u "I"), (2, u "U"), (0, u "Ljdk/internal/misc/Unsafe;"), (8, u "BIG_ENDIAN"), (0, u "Z"), (8, u "LOG2_BYTE_BIT_SIZE"), (4, u "LOG2_ARRAY_INT_INDEX_SCALE"), (54, u "JLA"), (0, u "Ljdk/internal/access/JavaLangAccess;"), (11, u "LOG2_ARRAY_BOOLEAN_INDEX_SCALE"), (9, u "LOG2_ARRAY_BYTE_INDEX_SCALE"), (5, u "LOG2_ARRAY_CHAR_INDEX_SCALE"), (5, u "LOG2_ARRAY_SHORT_INDEX_SCALE"), (18, u "LOG2_ARRAY_FLOAT_INDEX_SCALE"), (24, u "LOG2_ARRAY_DOUBLE_INDEX_SCALE"), (89, u "T_BOOLEAN"), (2, u "T_CHAR"), (1, u "T_FLOAT"), (1, u "T_DOUBLE"), (1, u "T_BYTE"), (1, u "T_SHORT"), (1, u "T_INT"), (1, u "T_LONG"), (1, u "SOFT_MAX_ARRAY_LENGTH")] 83

def k14m0 : Method := { name := "<init>", desc := "()V", sig := { parameters := [], returnType := none }, accessFlags := 2, code := none }
/-- jdk/internal/util/ArraysSupport -/
def k14 : Class := { plain "jdk/internal/util/ArraysSupport" (some 0) with
  accessFlags := 33
  interfaces := #[]
  cf := some (fileOf pool14 21 #[] #[{ accessFlags := 2, nameIndex := 9, descriptorIndex := 19, attributes := #[] }] 33 16 #[] #[{ accessFlags := 24, nameIndex := 28, descriptorIndex := 29, attributes := #[] }, { accessFlags := 26, nameIndex := 38, descriptorIndex := 39, attributes := #[] }, { accessFlags := 25, nameIndex := 121, descriptorIndex := 25, attributes := #[] }, { accessFlags := 25, nameIndex := 131, descriptorIndex := 25, attributes := #[] }, { accessFlags := 25, nameIndex := 137, descriptorIndex := 25, attributes := #[] }, { accessFlags := 25, nameIndex := 143, descriptorIndex := 25, attributes := #[] }, { accessFlags := 25, nameIndex := 53, descriptorIndex := 25, attributes := #[] }, { accessFlags := 25, nameIndex := 24, descriptorIndex := 25, attributes := #[] }, { accessFlags := 25, nameIndex := 162, descriptorIndex := 25, attributes := #[] }, { accessFlags := 25, nameIndex := 187, descriptorIndex := 25, attributes := #[] }, { accessFlags := 26, nameIndex := 48, descriptorIndex := 25, attributes := #[] }, { accessFlags := 25, nameIndex := 277, descriptorIndex := 25, attributes := #[] }, { accessFlags := 25, nameIndex := 280, descriptorIndex := 25, attributes := #[] }, { accessFlags := 25, nameIndex := 282, descriptorIndex := 25, attributes := #[] }, { accessFlags := 25, nameIndex := 284, descriptorIndex := 25, attributes := #[] }, { accessFlags := 25, nameIndex := 286, descriptorIndex := 25, attributes := #[] }, { accessFlags := 25, nameIndex := 288, descriptorIndex := 25, attributes := #[] }, { accessFlags := 25, nameIndex := 290, descriptorIndex := 25, attributes := #[] }, { accessFlags := 25, nameIndex := 292, descriptorIndex := 25, attributes := #[] }, { accessFlags := 26, nameIndex := 108, descriptorIndex := 109, attributes := #[] }, { accessFlags := 25, nameIndex := 294, descriptorIndex := 25, attributes := #[] }])
  fields := #[{ name := "U", type := (.object "jdk/internal/misc/Unsafe"), accessFlags := 24, slot := 0, constantValue := 0 }, { name := "BIG_ENDIAN", type := .boolean, accessFlags := 26, slot := 1, constantValue := 0 }, { name := "LOG2_ARRAY_BOOLEAN_INDEX_SCALE", type := .int, accessFlags := 25, slot := 2, constantValue := 0 }, { name := "LOG2_ARRAY_BYTE_INDEX_SCALE", type := .int, accessFlags := 25, slot := 3, constantValue := 0 }, { name := "LOG2_ARRAY_CHAR_INDEX_SCALE", type := .int, accessFlags := 25, slot := 4, constantValue := 0 }, { name := "LOG2_ARRAY_SHORT_INDEX_SCALE", type := .int, accessFlags := 25, slot := 5, constantValue := 0 }, { name := "LOG2_ARRAY_INT_INDEX_SCALE", type := .int, accessFlags := 25, slot := 6, constantValue := 0 }, { name := "LOG2_ARRAY_LONG_INDEX_SCALE", type := .int, accessFlags := 25, slot := 7, constantValue := 0 }, { name := "LOG2_ARRAY_FLOAT_INDEX_SCALE", type := .int, accessFlags := 25, slot := 8, constantValue := 0 }, { name := "LOG2_ARRAY_DOUBLE_INDEX_SCALE", type := .int, accessFlags := 25, slot := 9, constantValue := 0 }, { name := "LOG2_BYTE_BIT_SIZE", type := .int, accessFlags := 26, slot := 10, constantValue := 0 }, { name := "T_BOOLEAN", type := .int, accessFlags := 25, slot := 11, constantValue := 0 }, { name := "T_CHAR", type := .int, accessFlags := 25, slot := 12, constantValue := 0 }, { name := "T_FLOAT", type := .int, accessFlags := 25, slot := 13, constantValue := 0 }, { name := "T_DOUBLE", type := .int, accessFlags := 25, slot := 14, constantValue := 0 }, { name := "T_BYTE", type := .int, accessFlags := 25, slot := 15, constantValue := 0 }, { name := "T_SHORT", type := .int, accessFlags := 25, slot := 16, constantValue := 0 }, { name := "T_INT", type := .int, accessFlags := 25, slot := 17, constantValue := 0 }, { name := "T_LONG", type := .int, accessFlags := 25, slot := 18, constantValue := 0 }, { name := "JLA", type := (.object "jdk/internal/access/JavaLangAccess"), accessFlags := 26, slot := 19, constantValue := 0 }, { name := "SOFT_MAX_ARRAY_LENGTH", type := .int, accessFlags := 25, slot := 20, constantValue := 0 }]
  methods := #[k14m0]
  instanceTypes := #[]
  staticTypes := #[(.object "jdk/internal/misc/Unsafe"), .boolean, .int, .int, .int, .int, .int, .int, .int, .int, .int, .int, .int, .int, .int, .int, .int, .int, .int, (.object "jdk/internal/access/JavaLangAccess"), .int]
  resolved := Array.replicate 378 none
  statics := none }

def pool15 : Array CpInfo := pool [(1, u "java/lang/Cloneable"), (0, .class_ 1), (0, u "java/lang/Object"), (0, .class_ 3)] 3

/-- java/lang/Cloneable -/
def k15 : Class := { plain "java/lang/Cloneable" (some 0) with
  accessFlags := 1537
  interfaces := #[]
  cf := some (fileOf pool15 2 #[] #[] 1537 4 #[] #[])
  fields := #[]
  methods := #[]
  instanceTypes := #[]
  staticTypes := #[]
  resolved := Array.replicate 8 none
  statics := none }

/-- the primitive byte -/
def k16 : Class := { plain "byte" none with kind := .primitive 'B', accessFlags := 0x411 }
/-- [B -/
def k17 : Class := { plain "[B" (some 0) with kind := .array 16 .byte, interfaces := #[15, 4], accessFlags := 1041 }

/-- the primitive char -/
def k18 : Class := { plain "char" none with kind := .primitive 'C', accessFlags := 0x411 }
/-- [C -/
def k19 : Class := { plain "[C" (some 0) with kind := .array 18 .char, interfaces := #[15, 4], accessFlags := 1041 }

/-- the primitive int -/
def k20 : Class := { plain "int" none with kind := .primitive 'I', accessFlags := 0x411 }
/-- [I -/
def k21 : Class := { plain "[I" (some 0) with kind := .array 20 .int, interfaces := #[15, 4], accessFlags := 1041 }

def heap : Heap := #[{ cls := 9, slots := #[.long 0, .int 1, .null, .int 0, .null, .int 0, .int 0], vm := .statics 9 },
  { cls := 13, slots := #[.null, .null, .null], vm := .statics 13 }]
def classes : Array Class := #[k0, k1, k2, k3, k4, k5, k6, k7, k8, k9, k10, k11, k12, k13, k14, k15, k16, k17, k18, k19, k20, k21]
def interned : List (Array UInt16 × Addr) := []
def slotsUsed : Nat := 10
def theMethod : MethodId := ⟨1, 3⟩
def args0 : Array Value := #[.int 5, .int 6, .int 7, .int 8, .long 9, .long 10]
def aboutOver (below : List Frame) : State where
  vm := { classes := classes, interned := interned.toArray }
  heap := heap
  slotsUsed := slotsUsed
  threads := #[{ frames := .invoking theMethod args0 :: below }]
def below0 : List Frame := [.native { method := ⟨0, 0⟩, args := #[] }]
def about1 : State := aboutOver below0
def p0 : Program := .bare "" "" ""
def e0 : Env := launch0.env 0 0 0
theorem w_frames : about1.frames = Frame.invoking theMethod args0 :: below0 := rfl
set_option maxRecDepth 65536 in
theorem w_args : argsFit about1.vm theMethod args0 = true := by decide +kernel
set_option maxRecDepth 65536 in
theorem w_heap : heapFits about1 = true := by decide +kernel
set_option maxRecDepth 65536 in
theorem w_runnable : about1.curStatus? = some .runnable := by decide +kernel
set_option maxRecDepth 65536 in
theorem w_alone : about1.alone = true := by decide +kernel
set_option maxRecDepth 65536 in
theorem w_named : about1.methodNamed? x = some theMethod := by decide +kernel
set_option maxRecDepth 65536 in
theorem w_hears : about1.hears theMethod below0 = true := by decide +kernel
set_option maxRecDepth 65536 in
theorem w_ripe : about1.ripe theMethod args0 below0 = true := by decide +kernel
theorem w_running : about1.status = .running := rfl
set_option maxRecDepth 65536 in
theorem w_room : about1.hasRoom e0.platform room_1 = true :=
  launch0.hasRoom_least _ room_1 (by decide +kernel) (by decide +kernel) (by decide +kernel) (by decide +kernel) (by decide +kernel) (by decide +kernel)
theorem allAtoms_all (ts : List Jvm.Cond) (a : Array Jvm.Value) (st : Jvm.State) : (allAtoms ts).before a st = ts.all (fun c => c.before a st) := by
  induction ts with
  | nil => rfl
  | cons c t ih =>
    show (Jvm.Cond.and c (allAtoms t)).before a st = _
    rw [Jvm.Cond.before_and, ih, List.all_cons]
def words1 : List Jvm.Cond := Jvm.Cond.code x code maxLocals ret :: tables_1
/-- a 'code' word, met by the world's own term for the bytes: nothing is compared byte by byte -/
theorem code_word {y : MethodName} {bytes : ByteArray} {mx : Nat} {rt : Option FieldType} {a : Array Value} {s : State} {m : MethodId} {meth : Method} {c : Code} (h1 : s.methodNamed? y = some m) (h2 : s.vm.method? m = some meth) (h3 : meth.code = some c) (h4 : c.code = bytes)
    (h5 : (c.maxLocals == mx && c.exceptionTable.isEmpty && decide (c.maxStack ≤ mostOperands) && decide (meth.sig.returnType = rt) && !meth.locks && decide (parseMethodDescriptor y.desc = some meth.sig)) = true) : (Jvm.Cond.code y bytes mx rt).before a s = true := by
  simp only [Bool.and_eq_true, beq_iff_eq, Bool.not_eq_true', decide_eq_true_eq] at h5
  obtain ⟨⟨⟨⟨⟨g1, g2⟩, g3⟩, g4⟩, g5⟩, g6⟩ := h5
  simp [Cond.before, Cond.holds, Cond.value, h1, h2, h3, h4, g1, g2, g3, g4, g5, g6]
def isCode : Jvm.Cond → Bool
  | .code _ _ _ _ => true
  | _ => false
theorem all_split {L : List Jvm.Cond} {P : Jvm.Cond → Bool} (h1 : L.all (fun c => isCode c || P c) = true) (h2 : ∀ c ∈ L.filter isCode, P c = true) : L.all P = true := by
  refine List.all_eq_true.mpr fun c hc => ?_
  have h := List.all_eq_true.mp h1 c hc
  rcases Bool.eq_false_or_eq_true (isCode c) with hi | hi
  · exact h2 c (List.mem_filter.mpr ⟨hc, hi⟩)
  · simpa [hi] using h
set_option maxRecDepth 65536 in
theorem w_c0 : (Jvm.Cond.code x code maxLocals ret).before args0 about1 = true := code_word (m := ⟨1, 3⟩) (meth := k1m3) (c := k1c3) (by decide +kernel) rfl rfl rfl (by decide +kernel)
set_option maxRecDepth 65536 in
theorem w_c1 : (Jvm.Cond.code ({ cls := "com/example/plebiscite/plebiscite/core/CursorGivenByPinLaw", name := "same", desc := "(ICCICC)Z" } : Jvm.MethodName) method_3_code (6 : Nat) (Option.some Jvm.ClassFile.FieldType.boolean)).before args0 about1 = true := code_word (m := ⟨1, 2⟩) (meth := k1m2) (c := k1c2) (by decide +kernel) rfl rfl rfl (by decide +kernel)
set_option maxRecDepth 65536 in
theorem w_c2 : (Jvm.Cond.code ({ cls := "com/example/plebiscite/plebiscite/core/CursorGivenByPinLaw", name := "str", desc := "(ICC)Ljava/lang/String;" } : Jvm.MethodName) method_2_code (4 : Nat) (Option.some (Jvm.ClassFile.FieldType.object "java/lang/String"))).before args0 about1 = true := code_word (m := ⟨1, 1⟩) (meth := k1m1) (c := k1c1) (by decide +kernel) rfl rfl rfl (by decide +kernel)
set_option maxRecDepth 65536 in
theorem w_c3 : (Jvm.Cond.code ({ cls := "java/lang/String", name := "<init>", desc := "([C)V" } : Jvm.MethodName) jdk_42_method_3_code (2 : Nat) (Option.none : Option Jvm.ClassFile.FieldType)).before args0 about1 = true := code_word (m := ⟨9, 1⟩) (meth := k9m1) (c := k9c1) (by decide +kernel) rfl rfl rfl (by decide +kernel)
set_option maxRecDepth 65536 in
theorem w_c4 : (Jvm.Cond.code ({ cls := "java/lang/String", name := "<init>", desc := "([CIILjava/lang/Void;)V" } : Jvm.MethodName) jdk_42_method_149_code (6 : Nat) (Option.none : Option Jvm.ClassFile.FieldType)).before args0 about1 = true := code_word (m := ⟨9, 4⟩) (meth := k9m4) (c := k9c4) (by decide +kernel) rfl rfl rfl (by decide +kernel)
set_option maxRecDepth 65536 in
theorem w_c5 : (Jvm.Cond.code ({ cls := "java/lang/Object", name := "<init>", desc := "()V" } : Jvm.MethodName) object_method_1_code (1 : Nat) (Option.none : Option Jvm.ClassFile.FieldType)).before args0 about1 = true := code_word (m := ⟨0, 0⟩) (meth := k0m0) (c := k0c0) (by decide +kernel) rfl rfl rfl (by decide +kernel)
set_option maxRecDepth 65536 in
theorem w_c6 : (Jvm.Cond.code ({ cls := "com/example/plebiscite/plebiscite/core/Multilog$Point", name := "<init>", desc := "(JJJJ)V" } : Jvm.MethodName) prog_39_method_1_code (9 : Nat) (Option.none : Option Jvm.ClassFile.FieldType)).before args0 about1 = true := code_word (m := ⟨10, 0⟩) (meth := k10m0) (c := k10c0) (by decide +kernel) rfl rfl rfl (by decide +kernel)
set_option maxRecDepth 65536 in
theorem w_c7 : (Jvm.Cond.code ({ cls := "java/lang/Record", name := "<init>", desc := "()V" } : Jvm.MethodName) jdk_30_method_1_code (1 : Nat) (Option.none : Option Jvm.ClassFile.FieldType)).before args0 about1 = true := code_word (m := ⟨2, 0⟩) (meth := k2m0) (c := k2c0) (by decide +kernel) rfl rfl rfl (by decide +kernel)
set_option maxRecDepth 65536 in
theorem w_c8 : (Jvm.Cond.code ({ cls := "com/example/plebiscite/plebiscite/core/Cursor", name := "<init>", desc := "(Ljava/lang/String;Ljava/lang/String;Lcom/example/plebiscite/plebiscite/core/Multilog$Point;)V" } : Jvm.MethodName) prog_21_method_1_code (4 : Nat) (Option.none : Option Jvm.ClassFile.FieldType)).before args0 about1 = true := code_word (m := ⟨3, 0⟩) (meth := k3m0) (c := k3c0) (by decide +kernel) rfl rfl rfl (by decide +kernel)
set_option maxRecDepth 65536 in
theorem w_c9 : (Jvm.Cond.code ({ cls := "com/example/plebiscite/plebiscite/core/Cursor", name := "givenBy", desc := "(Ljava/lang/String;Ljava/lang/String;)Z" } : Jvm.MethodName) prog_21_method_5_code (3 : Nat) (Option.some Jvm.ClassFile.FieldType.boolean)).before args0 about1 = true := code_word (m := ⟨3, 1⟩) (meth := k3m1) (c := k3c1) (by decide +kernel) rfl rfl rfl (by decide +kernel)
set_option maxRecDepth 65536 in
theorem w_c10 : (Jvm.Cond.code ({ cls := "java/lang/String", name := "equals", desc := "(Ljava/lang/Object;)Z" } : Jvm.MethodName) jdk_42_method_66_code (3 : Nat) (Option.some Jvm.ClassFile.FieldType.boolean)).before args0 about1 = true := code_word (m := ⟨9, 2⟩) (meth := k9m2) (c := k9c2) (by decide +kernel) rfl rfl rfl (by decide +kernel)
set_option maxRecDepth 65536 in
theorem w_c11 : (Jvm.Cond.code ({ cls := "java/lang/StringLatin1", name := "equals", desc := "([B[B)Z" } : Jvm.MethodName) jdk_43_method_13_code (3 : Nat) (Option.some Jvm.ClassFile.FieldType.boolean)).before args0 about1 = true := code_word (m := ⟨11, 2⟩) (meth := k11m2) (c := k11c2) (by decide +kernel) rfl rfl rfl (by decide +kernel)
set_option maxRecDepth 65536 in
theorem w_c12 : (Jvm.Cond.code ({ cls := "java/lang/StringUTF16", name := "compress", desc := "([CII)[B" } : Jvm.MethodName) jdk_52_method_16_code (6 : Nat) (Option.some (Jvm.ClassFile.FieldType.array Jvm.ClassFile.FieldType.byte))).before args0 about1 = true := code_word (m := ⟨12, 2⟩) (meth := k12m2) (c := k12c2) (by decide +kernel) rfl rfl rfl (by decide +kernel)
set_option maxRecDepth 65536 in
theorem w_c13 : (Jvm.Cond.code ({ cls := "java/lang/StringUTF16", name := "compress", desc := "([CI[BII)I" } : Jvm.MethodName) jdk_52_method_21_code (7 : Nat) (Option.some Jvm.ClassFile.FieldType.int)).before args0 about1 = true := code_word (m := ⟨12, 3⟩) (meth := k12m3) (c := k12c3) (by decide +kernel) rfl rfl rfl (by decide +kernel)
set_option maxRecDepth 65536 in
theorem w_c14 : (Jvm.Cond.code ({ cls := "java/lang/StringUTF16", name := "coderFromArrayLen", desc := "([BI)B" } : Jvm.MethodName) jdk_52_method_15_code (2 : Nat) (Option.some Jvm.ClassFile.FieldType.byte)).before args0 about1 = true := code_word (m := ⟨12, 1⟩) (meth := k12m1) (c := k12c1) (by decide +kernel) rfl rfl rfl (by decide +kernel)
set_option maxRecDepth 65536 in
theorem w_c15 : (Jvm.Cond.code ({ cls := "java/lang/String", name := "valueOf", desc := "(C)Ljava/lang/String;" } : Jvm.MethodName) jdk_42_method_139_code (1 : Nat) (Option.some (Jvm.ClassFile.FieldType.object "java/lang/String"))).before args0 about1 = true := code_word (m := ⟨9, 3⟩) (meth := k9m3) (c := k9c3) (by decide +kernel) rfl rfl rfl (by decide +kernel)
set_option maxRecDepth 65536 in
theorem w_c16 : (Jvm.Cond.code ({ cls := "java/lang/StringLatin1", name := "canEncode", desc := "(C)Z" } : Jvm.MethodName) jdk_43_method_3_code (1 : Nat) (Option.some Jvm.ClassFile.FieldType.boolean)).before args0 about1 = true := code_word (m := ⟨11, 1⟩) (meth := k11m1) (c := k11c1) (by decide +kernel) rfl rfl rfl (by decide +kernel)
set_option maxRecDepth 65536 in
theorem w_c17 : (Jvm.Cond.code ({ cls := "java/lang/StringLatin1", name := "toBytes", desc := "(C)[B" } : Jvm.MethodName) jdk_43_method_46_code (1 : Nat) (Option.some (Jvm.ClassFile.FieldType.array Jvm.ClassFile.FieldType.byte))).before args0 about1 = true := code_word (m := ⟨11, 3⟩) (meth := k11m3) (c := k11c3) (by decide +kernel) rfl rfl rfl (by decide +kernel)
set_option maxRecDepth 65536 in
theorem w_c18 : (Jvm.Cond.code ({ cls := "java/lang/String", name := "<init>", desc := "([BB)V" } : Jvm.MethodName) jdk_42_method_151_code (3 : Nat) (Option.none : Option Jvm.ClassFile.FieldType)).before args0 about1 = true := code_word (m := ⟨9, 5⟩) (meth := k9m5) (c := k9c5) (by decide +kernel) rfl rfl rfl (by decide +kernel)
def codes1 : List Jvm.Cond := [Jvm.Cond.code x code maxLocals ret, Jvm.Cond.code ({ cls := "com/example/plebiscite/plebiscite/core/CursorGivenByPinLaw", name := "same", desc := "(ICCICC)Z" } : Jvm.MethodName) method_3_code (6 : Nat) (Option.some Jvm.ClassFile.FieldType.boolean), Jvm.Cond.code ({ cls := "com/example/plebiscite/plebiscite/core/CursorGivenByPinLaw", name := "str", desc := "(ICC)Ljava/lang/String;" } : Jvm.MethodName) method_2_code (4 : Nat) (Option.some (Jvm.ClassFile.FieldType.object "java/lang/String")), Jvm.Cond.code ({ cls := "java/lang/String", name := "<init>", desc := "([C)V" } : Jvm.MethodName) jdk_42_method_3_code (2 : Nat) (Option.none : Option Jvm.ClassFile.FieldType), Jvm.Cond.code ({ cls := "java/lang/String", name := "<init>", desc := "([CIILjava/lang/Void;)V" } : Jvm.MethodName) jdk_42_method_149_code (6 : Nat) (Option.none : Option Jvm.ClassFile.FieldType), Jvm.Cond.code ({ cls := "java/lang/Object", name := "<init>", desc := "()V" } : Jvm.MethodName) object_method_1_code (1 : Nat) (Option.none : Option Jvm.ClassFile.FieldType), Jvm.Cond.code ({ cls := "com/example/plebiscite/plebiscite/core/Multilog$Point", name := "<init>", desc := "(JJJJ)V" } : Jvm.MethodName) prog_39_method_1_code (9 : Nat) (Option.none : Option Jvm.ClassFile.FieldType), Jvm.Cond.code ({ cls := "java/lang/Record", name := "<init>", desc := "()V" } : Jvm.MethodName) jdk_30_method_1_code (1 : Nat) (Option.none : Option Jvm.ClassFile.FieldType), Jvm.Cond.code ({ cls := "com/example/plebiscite/plebiscite/core/Cursor", name := "<init>", desc := "(Ljava/lang/String;Ljava/lang/String;Lcom/example/plebiscite/plebiscite/core/Multilog$Point;)V" } : Jvm.MethodName) prog_21_method_1_code (4 : Nat) (Option.none : Option Jvm.ClassFile.FieldType), Jvm.Cond.code ({ cls := "com/example/plebiscite/plebiscite/core/Cursor", name := "givenBy", desc := "(Ljava/lang/String;Ljava/lang/String;)Z" } : Jvm.MethodName) prog_21_method_5_code (3 : Nat) (Option.some Jvm.ClassFile.FieldType.boolean), Jvm.Cond.code ({ cls := "java/lang/String", name := "equals", desc := "(Ljava/lang/Object;)Z" } : Jvm.MethodName) jdk_42_method_66_code (3 : Nat) (Option.some Jvm.ClassFile.FieldType.boolean), Jvm.Cond.code ({ cls := "java/lang/StringLatin1", name := "equals", desc := "([B[B)Z" } : Jvm.MethodName) jdk_43_method_13_code (3 : Nat) (Option.some Jvm.ClassFile.FieldType.boolean), Jvm.Cond.code ({ cls := "java/lang/StringUTF16", name := "compress", desc := "([CII)[B" } : Jvm.MethodName) jdk_52_method_16_code (6 : Nat) (Option.some (Jvm.ClassFile.FieldType.array Jvm.ClassFile.FieldType.byte)), Jvm.Cond.code ({ cls := "java/lang/StringUTF16", name := "compress", desc := "([CI[BII)I" } : Jvm.MethodName) jdk_52_method_21_code (7 : Nat) (Option.some Jvm.ClassFile.FieldType.int), Jvm.Cond.code ({ cls := "java/lang/StringUTF16", name := "coderFromArrayLen", desc := "([BI)B" } : Jvm.MethodName) jdk_52_method_15_code (2 : Nat) (Option.some Jvm.ClassFile.FieldType.byte), Jvm.Cond.code ({ cls := "java/lang/String", name := "valueOf", desc := "(C)Ljava/lang/String;" } : Jvm.MethodName) jdk_42_method_139_code (1 : Nat) (Option.some (Jvm.ClassFile.FieldType.object "java/lang/String")), Jvm.Cond.code ({ cls := "java/lang/StringLatin1", name := "canEncode", desc := "(C)Z" } : Jvm.MethodName) jdk_43_method_3_code (1 : Nat) (Option.some Jvm.ClassFile.FieldType.boolean), Jvm.Cond.code ({ cls := "java/lang/StringLatin1", name := "toBytes", desc := "(C)[B" } : Jvm.MethodName) jdk_43_method_46_code (1 : Nat) (Option.some (Jvm.ClassFile.FieldType.array Jvm.ClassFile.FieldType.byte)), Jvm.Cond.code ({ cls := "java/lang/String", name := "<init>", desc := "([BB)V" } : Jvm.MethodName) jdk_42_method_151_code (3 : Nat) (Option.none : Option Jvm.ClassFile.FieldType)]
set_option maxRecDepth 65536 in
theorem codes_eq : words1.filter isCode = codes1 := rfl
theorem w_codes : ∀ c ∈ words1.filter isCode, c.before args0 about1 = true := by
  rw [codes_eq]
  intro c hc
  simp only [codes1, List.mem_cons, List.not_mem_nil, or_false] at hc
  rcases hc with rfl | rfl | rfl | rfl | rfl | rfl | rfl | rfl | rfl | rfl | rfl | rfl | rfl | rfl | rfl | rfl | rfl | rfl | rfl
  · exact w_c0
  · exact w_c1
  · exact w_c2
  · exact w_c3
  · exact w_c4
  · exact w_c5
  · exact w_c6
  · exact w_c7
  · exact w_c8
  · exact w_c9
  · exact w_c10
  · exact w_c11
  · exact w_c12
  · exact w_c13
  · exact w_c14
  · exact w_c15
  · exact w_c16
  · exact w_c17
  · exact w_c18
set_option maxRecDepth 65536 in
theorem w_t1 : (words1.take 24).all (fun c => isCode c || c.before args0 about1) = true := by decide +kernel
set_option maxRecDepth 65536 in
theorem w_t2 : ((words1.drop 24).take 24).all (fun c => isCode c || c.before args0 about1) = true := by decide +kernel
set_option maxRecDepth 65536 in
theorem w_t3 : (((words1.drop 24).drop 24).take 24).all (fun c => isCode c || c.before args0 about1) = true := by decide +kernel
set_option maxRecDepth 65536 in
theorem w_t4 : ((((words1.drop 24).drop 24).drop 24).take 24).all (fun c => isCode c || c.before args0 about1) = true := by decide +kernel
set_option maxRecDepth 65536 in
theorem w_t5 : ((((words1.drop 24).drop 24).drop 24).drop 24).all (fun c => isCode c || c.before args0 about1) = true := by decide +kernel
theorem w_tables : (allAtoms (Jvm.Cond.code x code maxLocals ret :: tables_1)).before args0 about1 = true := by
  rw [allAtoms_all]
  show words1.all (fun c => c.before args0 about1) = true
  refine all_split ?_ w_codes
  rw [← List.take_append_drop 24 words1, List.all_append, w_t1, ← List.take_append_drop 24 (words1.drop 24), List.all_append, w_t2, ← List.take_append_drop 24 ((words1.drop 24).drop 24), List.all_append, w_t3, ← List.take_append_drop 24 (((words1.drop 24).drop 24).drop 24), List.all_append, w_t4, w_t5]
  rfl
set_option maxRecDepth 65536 in
theorem w_rest : rest_1_c.before args0 about1 = true := by decide +kernel
set_option maxRecDepth 65536 in
theorem w_case : (Jvm.Cond.and given_1 narrow_1).before args0 about1 = true := by decide +kernel
set_option maxRecDepth 65536 in
theorem w_consts : constsHeld consts_1 about1 := Jvm.Lit.constsHeldB_iff.mp (by decide +kernel)
theorem w_applies : (headSpec (Jvm.Cond.code x code maxLocals ret :: tables_1) room_1).applies x e0.platform about1 = true :=
  (Spec.applies_iff w_frames).mpr ⟨w_running, w_runnable, w_alone, w_named, w_hears, w_ripe, w_room, w_tables⟩
theorem atStart : AtStart classFile x code maxLocals ret World_1 tables_1 room_1 Calls_1 rest_1 Pre_1 launch0 p0 e0 about1 theMethod args0 below0 :=
  ⟨lists_1, trivial, launch0.admits_env _ _ _, launch0.least_env, fairChoices_fair.cas, fairChoices_fair.clock, w_frames, w_args, w_heap, w_applies, ⟨w_consts, trivial⟩, w_rest, w_case⟩
end start1
theorem witness_1 : WitnessClaimed_1 := ⟨start1.p0, start1.e0, start1.about1, start1.theMethod, start1.args0, start1.below0, start1.atStart⟩
end Jvm.Pilot.@@N@@
